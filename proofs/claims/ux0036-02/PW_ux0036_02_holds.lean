import PyProof.Rows.All
import Wide.All
import OpenK.AllK
import Wide.FinOn
import PyProof.GenQ
import PySem.Challenge.RW_ux0036_02
set_option Elab.async false
set_option autoImplicit false
set_option genSizeOf false
set_option genSizeOfSpec false
set_option bootstrap.genMatcherCode false
set_option genInjectivity false
set_option linter.all false
set_option maxRecDepth 100000
set_option maxHeartbeats 8000000
section
open PySem PySem.W PyProof.Rows
namespace Mine
abbrev qz (l a b:Nat):Pos:=⟨l,a,l,b⟩
inductive PV where
 | none
 | bool (b:Bool)
 | int (i:Int)
 | flt (x:UInt64)
 | str (x:Str)
 | tup (xs:List PV)
 | lst (xs:List PV)
 | obj (C:Addr) (fs:List PV)
 | dic (ks:List Int) (fs:List PV)
abbrev lstO (vs:List Value) (n:Nat):Obj:={ cls:=.type "list",data:=.seq vs.toArray n }
abbrev tupO (vs:List Value) (n:Nat):Obj:={ cls:=.type "tuple",data:=.seq vs.toArray n }
noncomputable def PV.int? (p:PV):Option Int:=PV.casesOn (motive_1:=fun _=>Option Int) p .none (fun _=>.none) some (fun _=>.none) (fun _=>.none) (fun _=>.none) (fun _=>.none) (fun _ _=>.none) fun _ _=>.none
noncomputable def PV.bool? (p:PV):Option Bool:=PV.casesOn (motive_1:=fun _=>Option Bool) p .none some (fun _=>.none) (fun _=>.none) (fun _=>.none) (fun _=>.none) (fun _=>.none) (fun _ _=>.none) fun _ _=>.none
noncomputable def PV.flt? (p:PV):Option UInt64:=PV.casesOn (motive_1:=fun _=>Option UInt64) p .none (fun _=>.none) (fun _=>.none) some (fun _=>.none) (fun _=>.none) (fun _=>.none) (fun _ _=>.none) fun _ _=>.none
noncomputable def PV.str? (p:PV):Option Str:=PV.casesOn (motive_1:=fun _=>Option Str) p .none (fun _=>.none) (fun _=>.none) (fun _=>.none) some (fun _=>.none) (fun _=>.none) (fun _ _=>.none) fun _ _=>.none
noncomputable def PV.tup? (p:PV):Option (List PV):=PV.casesOn (motive_1:=fun _=>Option (List PV)) p .none (fun _=>.none) (fun _=>.none) (fun _=>.none) (fun _=>.none) some (fun _=>.none) (fun _ _=>.none) fun _ _=>.none
noncomputable def PV.lst? (p:PV):Option (List PV):=PV.casesOn (motive_1:=fun _=>Option (List PV)) p .none (fun _=>.none) (fun _=>.none) (fun _=>.none) (fun _=>.none) (fun _=>.none) some (fun _ _=>.none) fun _ _=>.none
noncomputable def PV.obj? (p:PV):Option (Addr × List PV):=PV.casesOn (motive_1:=fun _=>Option (Addr × List PV)) p .none (fun _=>.none) (fun _=>.none) (fun _=>.none) (fun _=>.none) (fun _=>.none) (fun _=>.none) (fun a b=>some (a,b)) fun _ _=>.none
noncomputable def PV.dic? (p:PV):Option (List Int × List PV):=PV.casesOn (motive_1:=fun _=>Option (List Int × List PV)) p .none (fun _=>.none) (fun _=>.none) (fun _=>.none) (fun _=>.none) (fun _=>.none) (fun _=>.none) (fun _ _=>.none) fun a b=>some (a,b)
noncomputable def PV.isNone (p:PV):Bool:=PV.casesOn (motive_1:=fun _=>Bool) p true (fun _=>false) (fun _=>false) (fun _=>false) (fun _=>false) (fun _=>false) (fun _=>false) (fun _ _=>false) fun _ _=>false
theorem no {α:Type} {x:α} {P:Prop} (h:(none:Option α)=some x):P:=nomatch h
section
variable {p:PV}
theorem PV.is_int {a:Int} (e:p.int?=some a):p=.int a:=by cases p <;> first | exact no e | exact congrArg _ (Option.some.inj e)
theorem PV.is_bool {a:Bool} (e:p.bool?=some a):p=.bool a:=by cases p <;> first | exact no e | exact congrArg _ (Option.some.inj e)
theorem PV.is_flt {a:UInt64} (e:p.flt?=some a):p=.flt a:=by cases p <;> first | exact no e | exact congrArg _ (Option.some.inj e)
theorem PV.is_str {a:Str} (e:p.str?=some a):p=.str a:=by cases p <;> first | exact no e | exact congrArg _ (Option.some.inj e)
theorem PV.is_tup {a:List PV} (e:p.tup?=some a):p=.tup a:=by cases p <;> first | exact no e | exact congrArg _ (Option.some.inj e)
theorem PV.is_lst {a:List PV} (e:p.lst?=some a):p=.lst a:=by cases p <;> first | exact no e | exact congrArg _ (Option.some.inj e)
theorem PV.is_obj {a:Addr × List PV} (e:p.obj?=some a):p=.obj a.1 a.2:=by cases p <;> first | exact no e | exact Option.some.inj e▸rfl
theorem PV.is_dic {a:List Int × List PV} (e:p.dic?=some a):p=.dic a.1 a.2:=by cases p <;> first | exact no e | exact Option.some.inj e▸rfl
theorem PV.is_none (e:p.isNone=true):p=.none:=by cases p <;> first | rfl | exact nomatch e
end
def LstAt (C:Addr→Prop) (h:Heap) (v:Value) (vs:List Value):Prop:=∃ a n,v=.ref a∧C a∧h.get? a=some (lstO vs n)
def TupAt (C:Addr→Prop) (h:Heap) (v:Value) (vs:List Value):Prop:=∃ a n,v=.ref a∧C a∧h.get? a=some (tupO vs n)
def fieldNames:List Str:=["raw","n","nt","norm","is_simple"]
def OnlyFields (es:List DictEntry):Prop:=(∀ e∈es,e.refKey=false)∧∀ x:Str,x ∉ fieldNames→es.find? (·.key.isStr x)=none
def fieldsIn (es:List DictEntry) (vs:List Value):Prop:=fieldNames.map (nsFind es.toArray)=vs.map some
def ObjAt (K:Addr→Prop) (h:Heap) (C:Addr) (v:Value) (vs:List Value):Prop :=
 ∃ a dx es n,v=.ref a∧K a∧K dx∧h.get? a=some (instObj C dx)∧h.get? dx=some (dictOf es n)∧OnlyFields es∧fieldsIn es vs
def look {α:Type}:List Int→List α→Int→Option α
 | k::ks,v::vs,j=>if j=k then some v else look ks vs j
 | _,_,_=>none
def DicIn (h:Heap) (a:Addr) (ks:List Int) (vs:List Value):Prop:=∃ f,h.IntMap a f∧h.DictLe a ks.length∧(∀ k,f k=look ks vs k)∧vs.length=ks.length
def DicAt (C:Addr→Prop) (h:Heap) (ks:List Int) (v:Value) (vs:List Value):Prop:=∃ a,v=.ref a∧C a∧DicIn h a ks vs
section
variable (h:Heap) (B:Addr→Prop)
def Rep (p:PV):Value→Prop:=PV.rec (motive_1:=fun _=>Value→Prop) (motive_2:=fun _=>List Value→Prop)
 (fun v=>v=.none) (fun b v=>v=.bool b) (fun i v=>∃ t,v=.int i t) (fun x v=>∃ t,v=.float x t) (fun x v=>∃ t,v=.str x t)
 (fun _ ih v=>∃ vs,TupAt B h v vs∧ih vs) (fun _ ih v=>∃ vs,LstAt B h v vs∧ih vs) (fun C _ ih v=>∃ vs,ObjAt B h C v vs∧ih vs) (fun ks _ ih v=>∃ vs,DicAt B h ks v vs∧ih vs)
 (fun vs=>vs=[]) (fun _ _ f g vs=>∃ v r,vs=v::r∧f v∧g r) p
def RepL:List PV→List Value→Prop
 | [],vs=>vs=[]
 | p::ps,vs=>∃ v r,vs=v::r∧Rep h B p v∧RepL ps r
end
section
variable {h h':Heap} {B B' C C':Addr→Prop} {v w:Value} {vs ws:List Value} {p q:PV} {ps qs:List PV} {P:Prop} {n:Nat} {a:Addr}
theorem repL_is:RepL h B ps=PV.rec_1 (motive_1:=fun _=>Value→Prop) (motive_2:=fun _=>List Value→Prop)
 (fun v=>v=.none) (fun b v=>v=.bool b) (fun i v=>∃ t,v=.int i t) (fun x v=>∃ t,v=.float x t) (fun x v=>∃ t,v=.str x t)
 (fun _ ih v=>∃ vs,TupAt B h v vs∧ih vs) (fun _ ih v=>∃ vs,LstAt B h v vs∧ih vs) (fun C _ ih v=>∃ vs,ObjAt B h C v vs∧ih vs) (fun ks _ ih v=>∃ vs,DicAt B h ks v vs∧ih vs)
 (fun vs=>vs=[]) (fun _ _ f g vs=>∃ v r,vs=v::r∧f v∧g r) ps :=
 List.rec rfl (fun p ps ih=>show (fun vs=>∃ v r,vs=v::r∧Rep h B p v∧RepL h B ps r)=_ from ih▸rfl) ps
theorem rep_tup:Rep h B (.tup ps) v=∃ vs,TupAt B h v vs∧RepL h B ps vs:=congrArg (fun f:List Value→Prop=>∃ vs,TupAt B h v vs∧f vs) repL_is.symm
theorem rep_lst:Rep h B (.lst ps) v=∃ vs,LstAt B h v vs∧RepL h B ps vs:=congrArg (fun f:List Value→Prop=>∃ vs,LstAt B h v vs∧f vs) repL_is.symm
theorem rep_obj:Rep h B (.obj a ps) v=∃ vs,ObjAt B h a v vs∧RepL h B ps vs:=congrArg (fun f:List Value→Prop=>∃ vs,ObjAt B h a v vs∧f vs) repL_is.symm
theorem rep_dic {ks:List Int}:Rep h B (.dic ks ps) v=∃ vs,DicAt B h ks v vs∧RepL h B ps vs:=congrArg (fun f:List Value→Prop=>∃ vs,DicAt B h ks v vs∧f vs) repL_is.symm
theorem Rep.mkInt {i:Int} {t:Tok}:Rep h B (.int i) (.int i t):=⟨t,rfl⟩
theorem Rep.mkFlt {i:UInt64} {t:Tok}:Rep h B (.flt i) (.float i t):=⟨t,rfl⟩
theorem Rep.mkStr {i:Str} {t:Tok}:Rep h B (.str i) (.str i t):=⟨t,rfl⟩
theorem Rep.mkTup (b:B a) (e:h.get? a=some (tupO vs n)) (r:RepL h B ps vs):Rep h B (.tup ps) (.ref a):=rep_tup▸⟨vs,⟨a,n,rfl,b,e⟩,r⟩
theorem Rep.mkLst (b:B a) (e:h.get? a=some (lstO vs n)) (r:RepL h B ps vs):Rep h B (.lst ps) (.ref a):=rep_lst▸⟨vs,⟨a,n,rfl,b,e⟩,r⟩
theorem Rep.mkDic {ks:List Int} (b:B a) (e:DicIn h a ks vs) (r:RepL h B ps vs):Rep h B (.dic ks ps) (.ref a):=rep_dic▸⟨vs,⟨a,rfl,b,e⟩,r⟩
theorem RepL.nil:RepL h B [] []:=rfl
theorem RepL.cons (r:Rep h B p v) (l:RepL h B ps vs):RepL h B (p::ps) (v::vs):=⟨v,vs,rfl,r,l⟩
theorem Rep.onInt {M:Value→Prop} {i:Int} (r:Rep h B (.int i) v) (k:∀ t,M (.int i t)):M v:=r.elim fun t e=>e▸k t
theorem Rep.onFlt {M:Value→Prop} {i:UInt64} (r:Rep h B (.flt i) v) (k:∀ t,M (.float i t)):M v:=r.elim fun t e=>e▸k t
theorem Rep.onStr {M:Value→Prop} {i:Str} (r:Rep h B (.str i) v) (k:∀ t,M (.str i t)):M v:=r.elim fun t e=>e▸k t
theorem Rep.onBool {M:Value→Prop} {i:Bool} (r:Rep h B (.bool i) v) (k:M (.bool i)):M v:=Eq.symm (show v=.bool i from r)▸k
theorem Rep.onNone {M:Value→Prop} (r:Rep h B .none v) (k:M .none):M v:=Eq.symm (show v=.none from r)▸k
theorem LstAt.on {M:Value→Prop} (r:LstAt C h v vs) (k:∀ a n,C a→h.get? a=some (lstO vs n)→M (.ref a)):M v:=by obtain ⟨a,n,rfl,c,e⟩:=r; exact k a n c e
theorem TupAt.on {M:Value→Prop} (r:TupAt C h v vs) (k:∀ a n,C a→h.get? a=some (tupO vs n)→M (.ref a)):M v:=by obtain ⟨a,n,rfl,c,e⟩:=r; exact k a n c e
theorem Rep.onLst {M:Value→Prop} (r:Rep h B (.lst ps) v) (k:∀ a n vs,B a→h.get? a=some (lstO vs n)→RepL h B ps vs→M (.ref a)):M v:=(rep_lst▸r).elim fun _ r=>r.1.on fun a n b e=>k a n _ b e r.2
theorem Rep.onTup {M:Value→Prop} (r:Rep h B (.tup ps) v) (k:∀ a n vs,B a→h.get? a=some (tupO vs n)→RepL h B ps vs→M (.ref a)):M v:=(rep_tup▸r).elim fun _ r=>r.1.on fun a n b e=>k a n _ b e r.2
theorem Rep.onDic {ks:List Int} {M:Value→Prop} (r:Rep h B (.dic ks ps) v) (k:∀ a vs,B a→DicIn h a ks vs→RepL h B ps vs→M (.ref a)):M v:=by obtain ⟨vs,⟨a,rfl,b,e⟩,l⟩:=(rep_dic▸r:∃ vs,DicAt B h ks v vs∧RepL h B ps vs); exact k a vs b e l
theorem RepL.onNil {M:List Value→Prop} (r:RepL h B [] vs) (k:M []):M vs:=Eq.symm (show vs=[] from r)▸k
theorem RepL.onCons {M:List Value→Prop} (r:RepL h B (p::ps) vs) (k:∀ v r,Rep h B p v→RepL h B ps r→M (v::r)):M vs:=by obtain ⟨v,r,rfl,a,b⟩:=r; exact k v r a b
theorem LstAt.move (r:LstAt C h v vs) (k:∀ a o,C a→h.get? a=some o→C' a∧h'.get? a=some o):LstAt C' h' v vs:=by obtain ⟨a,n,e,c,g⟩:=r; exact ⟨a,n,e,k a _ c g⟩
theorem TupAt.move (r:TupAt C h v vs) (k:∀ a o,C a→h.get? a=some o→C' a∧h'.get? a=some o):TupAt C' h' v vs:=by obtain ⟨a,n,e,c,g⟩:=r; exact ⟨a,n,e,k a _ c g⟩
theorem ObjAt.move (r:ObjAt C h a v vs) (k:∀ a o,C a→h.get? a=some o→C' a∧h'.get? a=some o):ObjAt C' h' a v vs:=by obtain ⟨a,d,es,n,e,c,c2,g,g2,r⟩:=r; exact ⟨a,d,es,n,e,(k a _ c g).1,(k d _ c2 g2).1,(k a _ c g).2,(k d _ c2 g2).2,r⟩
theorem DicIn.keep {a:Addr} {ks:List Int} (r:DicIn h a ks vs) (k:∀ o,h.get? a=some o→h'.get? a=some o):DicIn h' a ks vs:=by
 obtain ⟨f,⟨o,es,ep,e,q⟩,z,r⟩:=r
 exact ⟨f,⟨o,es,ep,k o e,q⟩,z.of_same e (k o e),r⟩
theorem DicIn.live {a:Addr} {ks:List Int} (r:DicIn h a ks vs):∃ o,h.get? a=some o:=by obtain ⟨f,⟨o,es,ep,e,q⟩,r⟩:=r; exact ⟨o,e⟩
theorem DicAt.move {ks:List Int} (r:DicAt C h ks v vs) (k:∀ a o,C a→h.get? a=some o→C' a∧h'.get? a=some o):DicAt C' h' ks v vs:=by
 obtain ⟨a,e,c,d⟩:=r
 obtain ⟨o,g⟩:=d.live
 exact ⟨a,e,(k a o c g).1,d.keep fun o g=>(k a o c g).2⟩
theorem Rep.move (r:Rep h B p v) (k:∀ a o,B a→h.get? a=some o→B' a∧h'.get? a=some o):Rep h' B' p v :=
 PV.rec (motive_1:=fun p=>∀ v,Rep h B p v→Rep h' B' p v) (motive_2:=fun ps=>∀ vs,RepL h B ps vs→RepL h' B' ps vs)
  (fun _ r=>r) (fun _ _ r=>r) (fun _ _ r=>r) (fun _ _ r=>r) (fun _ _ r=>r)
  (fun _ ih v r=>by rw [rep_tup] at r ⊢; exact r.imp fun vs r=>⟨r.1.move k,ih vs r.2⟩) (fun _ ih v r=>by rw [rep_lst] at r ⊢; exact r.imp fun vs r=>⟨r.1.move k,ih vs r.2⟩)
  (fun _ _ ih v r=>by rw [rep_obj] at r ⊢; exact r.imp fun vs r=>⟨r.1.move k,ih vs r.2⟩) (fun _ _ ih v r=>by rw [rep_dic] at r ⊢; exact r.imp fun vs r=>⟨r.1.move k,ih vs r.2⟩)
  (fun _ r=>r) (fun _ _ f g vs r=>by refine r.onCons fun v r a b=>?_; exact RepL.cons (f v a) (g r b)) p v r
theorem RepL.move (k:∀ a o,B a→h.get? a=some o→B' a∧h'.get? a=some o):∀ {ps vs},RepL h B ps vs→RepL h' B' ps vs
 | [],_,r=>r
 | _::_,_,r=>by refine r.onCons fun _ _ a b=>?_; exact RepL.cons (a.move k) (RepL.move k b)
theorem RepL.length:∀ {ps vs},RepL h B ps vs→vs.length=ps.length
 | [],_,r=>r.onNil (M:=fun vs=>vs.length=_) rfl
 | _::_,_,r=>r.onCons (M:=fun vs=>vs.length=_) fun _ _ _ b=>congrArg (·+1) (RepL.length b)
theorem RepL.append (l:RepL h B qs ws):∀ {ps vs},RepL h B ps vs→RepL h B (ps++qs) (vs++ws)
 | [],_,r=>r.onNil (M:=fun vs=>RepL h B qs (vs++ws)) l
 | _::_,_,r=>r.onCons (M:=fun vs=>RepL h B _ (vs++ws)) fun _ _ a b=>RepL.cons a (RepL.append l b)
theorem RepL.get:∀ {ps vs} {i:Nat} {p},RepL h B ps vs→ps[i]?=some p→∃ v,vs[i]?=some v∧Rep h B p v
 | [],_,_,_,_,e=>no e
 | _::_,_,0,p,r,e=>r.onCons (M:=fun vs=>∃ v,vs[0]?=some v∧Rep h B p v) fun v _ a _=>⟨v,rfl,Option.some.inj e▸a⟩
 | _::_,_,i+1,p,r,e=>r.onCons (M:=fun vs=>∃ v,vs[i+1]?=some v∧Rep h B p v) fun _ _ _ b=>RepL.get (i:=i) b e
theorem RepL.get':∀ {ps vs} {i:Nat} {v},RepL h B ps vs→vs[i]?=some v→∃ p,ps[i]?=some p∧Rep h B p v
 | [],_,_,_,r=>r.onNil (M:=fun vs=>vs[_]?=some _→_) no
 | p::_,_,0,v,r=>r.onCons (M:=fun vs=>vs[0]?=some v→_) fun v _ a _ e=>⟨p,rfl,Option.some.inj e▸a⟩
 | _::_,_,i+1,v,r=>r.onCons (M:=fun vs=>vs[i+1]?=some v→_) fun _ _ _ b e=>RepL.get' (i:=i) b e
theorem RepL.drop:∀ {ps vs} (i:Nat),RepL h B ps vs→RepL h B (ps.drop i) (vs.drop i)
 | _,_,0,r=>r
 | [],_,i+1,r=>r.onNil (M:=fun vs=>RepL h B _ (vs.drop (i+1))) RepL.nil
 | _::_,_,i+1,r=>r.onCons (M:=fun vs=>RepL h B _ (vs.drop (i+1))) fun _ _ _ b=>RepL.drop i b
theorem RepL.take:∀ {ps vs} (i:Nat),RepL h B ps vs→RepL h B (ps.take i) (vs.take i)
 | _,_,0,_=>RepL.nil
 | [],_,i+1,r=>r.onNil (M:=fun vs=>RepL h B _ (vs.take (i+1))) RepL.nil
 | _::_,_,i+1,r=>r.onCons (M:=fun vs=>RepL h B _ (vs.take (i+1))) fun _ _ a b=>RepL.cons a (RepL.take i b)
theorem RepL.rev:∀ {ps vs},RepL h B ps vs→RepL h B ps.reverse vs.reverse
 | [],_,r=>r.onNil (M:=fun vs=>RepL h B _ vs.reverse) RepL.nil
 | _::_,_,r=>r.onCons (M:=fun vs=>RepL h B _ vs.reverse) fun _ _ a b=>by rw [List.reverse_cons,List.reverse_cons]; exact RepL.append (RepL.cons a RepL.nil) (RepL.rev b)
theorem RepL.set (l:Rep h B q w):∀ {ps vs} (i:Nat),RepL h B ps vs→RepL h B (ps.set i q) (vs.set i w)
 | [],_,i,r=>r.onNil (M:=fun vs=>RepL h B _ (vs.set i w)) RepL.nil
 | _::_,_,0,r=>r.onCons (M:=fun vs=>RepL h B _ (vs.set 0 w)) fun _ _ _ b=>RepL.cons l b
 | _::_,_,i+1,r=>r.onCons (M:=fun vs=>RepL h B _ (vs.set (i+1) w)) fun _ _ a b=>RepL.cons a (RepL.set l i b)
end
end Mine
end
section
open PySem PySem.W PyProof.Rows
namespace Mine
structure Nms where
 fns:List Str
 gens:List Str
 flts:List (Str × UInt64)
 inams:List (Str × Int)
 ms:List Str
 cls:Addr
 cats:List (Nat × Str × Str)
 lams:List (Addr × Pos × Str)
structure Cx where
 prog:Program
 w:World
 N:Addr
 L₀:Addr→Prop
 G:Heap→Prop
 nm:Nms
 mg:Str→Option Value
 mb:Str→Option Value
 fv:Nat→Value
 gv:Nat→Value
 mv:Nat→Value
 xv:Nat→Option Value
abbrev Cx.M (X:Cx):Model:=model X.prog X.w
def Cx.V (X:Cx) (a:Addr):Prop:=X.N≤a∨X.L₀ a
def NotCode (o:Obj):Prop:=o.cls≠.type "code"∨∀ vs,o.data≠.fields vs
def Mut (N:Nat) (h:Heap) (a:Addr):Prop:=N≤a∧∃ o,h.get? a=some o∧NotCode o
abbrev Ext (h h':Heap):Prop:=∀ a o,h.get? a=some o→h'.get? a=some o
abbrev ExtOn (K:Addr→Prop) (h h':Heap):Prop:=∀ a o,K a→h.get? a=some o→h'.get? a=some o
structure Room (Ar:Around) (d:Nat):Prop where
 hh:Ar.handled=none
 hd:Ar.depth+d≤1000
 hu:Ar.units+8 * d+200≤9900
theorem Room.less {Ar:Around} {d e:Nat} (r:Room Ar d) (h:e≤d):Room Ar e:=⟨r.hh,Nat.le_trans (Nat.add_le_add_left h _) r.hd,Nat.le_trans (Nat.add_le_add_right (Nat.add_le_add_left (Nat.mul_le_mul_left 8 h) _) _) r.hu⟩
theorem room_u {u d:Nat} (h:u+8 * (d+1)+200≤9900):u+3+8 * d+200≤9900:=by omega
theorem room_d {u d:Nat} (h:u+(d+1)≤1000):u+1+d≤1000∧u < 1000:=by omega
theorem room_v {u d:Nat} (h:u+8 * d+200≤9900):u+64 < 9900:=by omega
theorem Room.deeper {Ar:Around} {d:Nat} {env:Env} (r:Room Ar (d+1)):Room (Ar.deeper env) d:=⟨r.hh,(room_d r.hd).1,room_u r.hu⟩
theorem Room.depth {Ar:Around} {d:Nat} (r:Room Ar (d+1)):Ar.depth < recursionLimit:=(room_d r.hd).2
theorem Room.units {Ar:Around} {d:Nat} (r:Room Ar d):Ar.units+64 < cLine:=room_v r.hu
structure St (X:Cx) (K:Addr→Prop) (g:Nat) (s s':Shared):Prop where
 off:ExtOn K s.heap s'.heap
 G:X.G s.heap→X.G s'.heap
 gens:∀ (i:Nat) (x:GenState),i < g→s.gens[i]?=some x→s'.gens[i]?=some x
 bare:AllBare s.gens→AllBare s'.gens
 os:s'.os=s.os
abbrev Stp (X:Cx) (K:Addr→Prop) (s s':Shared):Prop:=St X K s.gens.size s s'
section
variable {X:Cx} {K K':Addr→Prop} {g g':Nat} {s s' s'':Shared} {h h':Heap}
theorem St.refl:St X K g s s:=⟨fun _ _ _ e=>e,id,fun _ _ _ e=>e,id,rfl⟩
theorem St.live (x:St X K g s s') {a:Addr} (k:K a) (e:s'.heap.get? a=none):s.heap.get? a=none:=by
 cases q:s.heap.get? a with
 | none=>rfl
 | some o=>rw [x.off a o k q] at e; cases e
theorem St.trans (x:St X K g s s') (y:St X K g s' s''):St X K g s s'' :=
 ⟨fun a o k e=>y.off a o k (x.off a o k e),fun q=>y.G (x.G q),fun i z l e=>y.gens i z l (x.gens i z l e),fun b=>y.bare (x.bare b),y.os.trans x.os⟩
theorem St.weak (x:St X K g s s') (h:∀ a o,K' a→s.heap.get? a=some o→K a) (l:g'≤g):St X K' g' s s' :=
 ⟨fun a o k e=>x.off a o (h a o k e) e,x.G,fun i z n e=>x.gens i z (Nat.lt_of_lt_of_le n l) e,x.bare,x.os⟩
theorem Stp.size (x:Stp X K s s'):s.gens.size≤s'.gens.size:=by
 cases n:s.gens.size with
 | zero=>exact Nat.zero_le _
 | succ k =>
  have l:k < s.gens.size:=n▸Nat.lt_succ_self k
  exact (Array.getElem?_eq_some_iff.mp (x.gens k _ l (Array.getElem?_eq_getElem l))).1
theorem Stp.trans (x:Stp X K s s') (y:Stp X K s' s''):Stp X K s s'':=St.trans x (y.weak (fun _ _ k _=>k) x.size)
theorem Stp.weak (x:Stp X K s s') (h:∀ a,K' a→K a):Stp X K' s s':=St.weak x (fun a _ k _=>h a k) (Nat.le_refl _)
theorem get_size (h:Heap):h.get? h.objs.size=none:=by
 cases q:h.get? h.objs.size with
 | none=>rfl
 | some o=>exact absurd (Heap.lt_size q) (Nat.lt_irrefl _)
theorem Ext.push (h:Heap) (o:Obj):Ext h (h.push o):=fun _ _ e=>Heap.get?_push_of_some _ e
end
structure Fns where
 fn:Nat→List PV→Option PV
 me:Nat→List PV→Option PV
 gen:Nat→List PV→Option (List PV)
 x:Nat→List PV→Option PV
 hi:Nat→(Nat→(Nat→List PV→Option PV)→List PV→Option PV)→List PV→Option PV
inductive Loc | loc (L:Addr) (x:Str) | cell (c:Addr)
noncomputable def Loc.addr (l:Loc):Addr:=Loc.casesOn (motive:=fun _=>Addr) l (fun L _=>L) id
def At (h:Heap) (o:Option Value) (l:Loc):Prop:=Loc.casesOn (motive:=fun _=>Prop) l (fun L x=>∃ m,h.Ns L m∧m x=o) (fun c=>h.IsCell c o)
theorem At.keep {h h':Heap} {o:Option Value}:∀ {l:Loc},At h o l→(∀ ob,h.get? l.addr=some ob→h'.get? l.addr=some ob)→At h' o l
 | .loc _ _,⟨m,⟨ob,es,ep,q,r⟩,e⟩,k=>⟨m,⟨ob,es,ep,k ob q,r⟩,e⟩
 | .cell _,⟨ob,q,r⟩,k=>⟨ob,k ob q,r⟩
inductive Cont
 | l (xs:List PV)
 | d (ks:List Int) (xs:List PV)
inductive Slot
 | unset
 | val (p:PV)
 | own (c:Cont)
 | is (k:Nat)
 | fn (k:Nat)
structure Fr where
 X:Cx
 Φ:Fns
 Ar:Around
 d:Nat
 env:Env
 ls:List Loc
 B:Addr→Prop
 U:Addr→Prop
 wr:Nat
 ow:Nat
 fx:Nat→Value
def Fr.Rep (Z:Fr) (h:Heap):PV→Value→Prop:=Mine.Rep h Z.B
def Fr.RepL (Z:Fr) (h:Heap):List PV→List Value→Prop:=Mine.RepL h Z.B
abbrev FarFrom (Z:Fr) (a:Addr):Prop:=(∀ l∈Z.ls,a≠l.addr)∧a≠Z.env.locals
def ContV (Z:Fr) (h:Heap) (o:Option Value) (c:Cont):Prop:=Cont.casesOn (motive:=fun _=>Prop) c
 (fun xs=>∃ v vs,o=some v∧LstAt (fun a=>Z.X.N≤a) h v vs∧Z.RepL h xs vs) (fun ks xs=>∃ a vs,o=some (.ref a)∧(Z.X.N≤a∧FarFrom Z a)∧DicIn h a ks vs∧Z.RepL h xs vs)
def SlotV (Z:Fr) (h:Heap) (o:Option Value) (t:Slot):Prop:=Slot.casesOn (motive:=fun _=>Prop) t True (fun p=>∃ v,o=some v∧Z.Rep h p v)
 (ContV Z h o) (fun k=>o=some (Z.fx k)) (fun k=>∃ v,o=some v∧Z.X.xv k=some v)
theorem ContV.move {Z Z':Fr} {h h':Heap} {o:Option Value} {c:Cont} (r:ContV Z h o c) (hN:Z'.X.N=Z.X.N) (hB:∀ a ob,Z.B a→h.get? a=some ob→Z'.B a∧h'.get? a=some ob) (hl:∀ a xs vs n,c=.l xs→o=some (.ref a)→Z.X.N≤a→h.get? a=some (lstO vs n)→h'.get? a=some (lstO vs n))
  (hd:∀ a ob ks xs,c=.d ks xs→o=some (.ref a)→Z.X.N≤a→FarFrom Z a→h.get? a=some ob→FarFrom Z' a∧h'.get? a=some ob):ContV Z' h' o c:=by
 cases c with
 | l xs =>
  obtain ⟨v,vs,e,⟨a,n,rfl,q,g⟩,rl⟩:=r
  exact ⟨_,vs,e,⟨a,n,rfl,hN▸q,hl a xs vs n rfl e q g⟩,Mine.RepL.move hB rl⟩
 | d ks xs =>
  obtain ⟨a,vs,e,q,g,rl⟩:=r
  obtain ⟨ob,z⟩:=g.live
  exact ⟨a,vs,e,⟨hN▸q.1,(hd a ob ks xs rfl e q.1 q.2 z).1⟩,g.keep fun ob z=>(hd a ob ks xs rfl e q.1 q.2 z).2,Mine.RepL.move hB rl⟩
structure SC where
 N:List (Str × NameKind)
 Γ:List Str
 nm:Nms
 own:Option (Addr × Str)
structure EnvOk (env:Env) (sc:SC) (ls:List Loc):Prop where
 kind:env.scope.kind=.function
 names:env.scope.names=sc.N
 glob:env.globals=mainGlobals
 blt:env.builtins=builtinsNs
 len:ls.length=sc.Γ.length
 loc:∀ (i:Nat) (x:Str) (l:Loc),sc.Γ[i]?=some x→ls[i]?=some l→sc.N.lookup x=some .local→l=Loc.loc env.locals x
 cel:∀ (i:Nat) (x:Str) (l:Loc),sc.Γ[i]?=some x→ls[i]?=some l→(sc.N.lookup x=some .cell∨sc.N.lookup x=some .free)→∃ c,env.cells.lookup x=some c∧l=Loc.cell c
 made:∀ c q,sc.own=some (c,q)→env.code=.ref c∧env.qual=q
structure FnStands (X:Cx) (h:Heap) (F:Addr) (fd:FuncData):Prop where
 obj:∃ o,h.get? F=some o∧o.data=.func fd
 hi:X.N≤F
 code:∃ c oc vs t,fd.code=.ref c∧h.get? c=some oc∧oc.cls=.type "code"∧oc.data=.fields vs∧vs[1]?=some (.str fd.qualname t)∧X.V c
def MkLam (X:Cx) (code:Value) (params:Arguments) (body:Expr) (scope:Scope) (pos:Pos) (qual:Str):Prop :=
 ∀ (Ar:Around) (env:Env) (clos:List (Str × Addr)) (s:Shared) (Q:Value→Shared→Prop) (E:Value→Shared→Prop),X.G s.heap→env.globals=mainGlobals→env.code=code→closureFor scope env=pure clos →
  (∀ F fd s',Stp X X.V s s'→s.heap.objs.size≤F→FnStands X s'.heap F fd→(∃ pm cd ctv,fd=kla_fn "<lambda>" qual params body scope clos pm cd ctv)→Q (.ref F) s') →
  wpAny X.M Ar (makeFunction "<lambda>" qual params (.expr body) scope env [] [] [] pos pos.line) Q E s
structure CxOk (X:Cx):Prop where
 Gk:∀ (h h':Heap) (W:Addr→Prop),X.G h→(∀ a,W a→Mut X.N h a)→(∀ a o,¬ W a→h.get? a=some o→h'.get? a=some o)→X.G h'
 nolimit:∀ h,X.G h→h.NoLimit
 size:∀ h,X.G h→X.N≤h.objs.size
 g:∀ h,X.G h→h.Ns mainGlobals X.mg
 b:∀ h,X.G h→h.Ns builtinsNs X.mb
 fns:∀ f x,X.nm.fns[f]?=some x→X.mg x=some (X.fv f)
 gens:∀ f x,X.nm.gens[f]?=some x→X.mg x=some (X.gv f)
 flts:∀ x b,X.nm.flts.lookup x=some b→∃ t,X.mg x=some (.float b t)
 inams:∀ x b,X.nm.inams.lookup x=some b→∃ t,X.mg x=some (.int b t)
 blt:∀ x∈(["len","abs","max","min","sum","int","sorted","tuple","list","divmod","range","enumerate","zip","reversed","str"]:List Str),X.mg x=none∧X.mb x=bootBuiltins x
 callw:∀ f x,X.nm.fns[f]?=some x→∀ (Ar:Around) (pos:Pos) (first:List Value) (trees:List (Bool × Sem Value)) (Q:Value→Shared→Prop) (E:Value→Shared→Prop) (s:Shared),trees.any (·.1)=false →
  wpAny X.M Ar (spliced trees) (fun vs s₁=>X.G s₁.heap∧wpAny X.M Ar (call (X.fv f) (first++vs)) Q E s₁) E s→X.G s.heap→wpAny X.M Ar (callWith pos (X.fv f) first trees []) Q E s
 callg:∀ f x,X.nm.gens[f]?=some x→∀ (Ar:Around) (pos:Pos) (first:List Value) (trees:List (Bool × Sem Value)) (Q:Value→Shared→Prop) (E:Value→Shared→Prop) (s:Shared),trees.any (·.1)=false →
  wpAny X.M Ar (spliced trees) (fun vs s₁=>X.G s₁.heap∧wpAny X.M Ar (call (X.gv f) (first++vs)) Q E s₁) E s→X.G s.heap→wpAny X.M Ar (callWith pos (X.gv f) first trees []) Q E s
 callx:∀ f v,X.xv f=some v→∀ (Ar:Around) (pos:Pos) (trees:List (Bool × Sem Value)) (Q:Value→Shared→Prop) (E:Value→Shared→Prop) (s:Shared),trees.any (·.1)=false →
  wpAny X.M Ar (spliced trees) (fun vs s₁=>X.G s₁.heap∧wpAny X.M Ar (call v vs) Q E s₁) E s→X.G s.heap→wpAny X.M Ar (callWith pos v [] trees []) Q E s
 lam:∀ c pos q,(c,pos,q)∈X.nm.lams→∀ params body scope,MkLam X (.ref c) params body scope pos q
 attr:∀ (i:Nat) (x:Str),fieldNames[i]?=some x→∀ (Ar:Around) (B:Addr→Prop) (s:Shared) (ov:Value) (fs:List PV) (p:PV) (Q:Value→Shared→Prop) (E:Value→Shared→Prop),X.G s.heap→Rep s.heap B (.obj X.nm.cls fs) ov→fs[i]?=some p →
  (∀ v tk,Rep s.heap B p v→Q v { s with toks:=tk })→wpAny X.M Ar (getAttr ov x true) Q E s
 umeth:∀ (f:Nat) (x:Str),X.nm.ms[f]?=some x→∀ (Ar:Around) (B:Addr→Prop) (s:Shared) (o:Expr) (apos pos:Pos) (env:Env) (ov:Value) (fs:List PV) (n:Nat) (trees:List (Bool × Sem Value)) (Q:Value→Shared→Prop) (E:Value→Shared→Prop),
  X.G s.heap→Rep s.heap B (.obj X.nm.cls fs) ov→methodCallForm n trees []=true→(apos.endLine==pos.line)=true→trees.any (·.1)=false →
  wpAny X.M Ar (spliced trees) (fun vs s₁=>X.G s₁.heap∧wpAny X.M Ar (call (X.mv f) (ov::vs)) Q E s₁) E s→wpAny X.M Ar (methodCall o x apos pos env ov n trees []) Q E s
 cat:∀ (f:Nat) (w x y:Str),X.nm.fns[f]?=some w→(f,x,y)∈X.nm.cats→∀ (Ar:Around) (s:Shared) (Q:Value→Shared→Prop) (E:Value→Shared→Prop),X.G s.heap→(∀ t,Q (.str y t) { s with toks:=s.toks+1 })→wpAny X.M Ar (getAttr (X.fv f) x true) Q E s
structure Bs (Z:Fr) (s:Shared):Prop where
 K:CxOk Z.X
 R:Room Z.Ar Z.d
 g:Z.X.G s.heap
 fresh:∀ a,Z.X.N≤a→s.heap.get? a=none→Z.B a
 sub:∀ a,Z.B a→Z.X.V a
structure Dy (Z:Fr) (σ:List Slot) (ws:Nat→Option Value) (s:Shared):Prop extends Bs Z s where
 dis:∀ a,Z.U a→¬ Z.B a
 turn:∀ a,Z.U a→Mut Z.X.N s.heap a
 len:Z.ls.length=σ.length
 pl:∀ (i:Nat) (l:Loc),Z.ls[i]?=some l→At s.heap (ws i) l
 ok:∀ (i:Nat) (t:Slot),σ[i]?=some t→SlotV Z s.heap (ws i) t
 hi:∀ l∈Z.ls,Z.X.N≤l.addr
 mine:∀ (i:Nat) (l:Loc),i < Z.wr→Z.ls[i]?=some l→Z.U l.addr
 ownU:∀ (i:Nat) (xs:Cont) (a:Addr),i < Z.ow→σ[i]?=some (.own xs)→ws i=some (.ref a)→Z.U a
 apart:Z.ls.Nodup
 nsl:Z.X.N≤Z.env.locals∧∃ m,s.heap.Ns Z.env.locals m
 once:∀ (i j:Nat) (xs ys:Cont),σ[i]?=some (.own xs)→σ[j]?=some (.own ys)→ws i=ws j→i=j
def Gets (Z:Fr) (s:Shared) (p:PV) (t:Sem Value):Prop:=∀ (Q:Value→Shared→Prop) (E:Value→Shared→Prop),(∀ v s',Stp Z.X Z.X.V s s'→Z.Rep s'.heap p v→Q v s')→wpAny Z.X.M Z.Ar t Q E s
def GetsB (Z:Fr) (s:Shared) (b:Bool) (t:Sem Bool):Prop:=∀ (Q:Bool→Shared→Prop) (E:Value→Shared→Prop),(∀ s',Stp Z.X Z.X.V s s'→Q b s')→wpAny Z.X.M Z.Ar t Q E s
def GetsW (Z:Fr) (s:Shared) (xs:List PV) (t:Sem Value):Prop:=∀ (Q:Value→Shared→Prop) (E:Value→Shared→Prop),(∀ v vs s',Stp Z.X Z.X.V s s'→LstAt Z.X.V s'.heap v vs→Z.RepL s'.heap xs vs→Q v s')→wpAny Z.X.M Z.Ar t Q E s
section
variable {Z:Fr} {s s' s'':Shared} {h':Heap} {tk:Nat} {σ:List Slot} {ws:Nat→Option Value} {p:PV} {ps:List PV} {v:Value} {vs:List Value}
theorem Fr.Rep.stp (r:Z.Rep s.heap p v) (b:∀ a,Z.B a→Z.X.V a) (x:Stp Z.X Z.X.V s s'):Z.Rep s'.heap p v:=Mine.Rep.move r fun a o k e=>⟨k,x.off a o (b a k) e⟩
theorem Fr.RepL.stp (r:Z.RepL s.heap ps vs) (b:∀ a,Z.B a→Z.X.V a) (x:Stp Z.X Z.X.V s s'):Z.RepL s'.heap ps vs:=Mine.RepL.move (fun a o k e=>⟨k,x.off a o (b a k) e⟩) r
theorem Bs.step (V:Bs Z s) (x:Stp Z.X Z.X.V s s'):Bs Z s':=⟨V.K,V.R,x.G V.g,fun a n e=>V.fresh a n (x.live (.inl n) e),V.sub⟩
theorem Dy.step (D:Dy Z σ ws s) (x:Stp Z.X Z.X.V s s'):Dy Z σ ws s' :=
 have k:∀ a o,Z.X.N≤a→s.heap.get? a=some o→s'.heap.get? a=some o:=fun a o u e=>x.off a o (.inl u) e
 {D.toBs.step x with
  dis:=D.dis,len:=D.len,hi:=D.hi,mine:=D.mine,ownU:=D.ownU,apart:=D.apart,once:=D.once,nsl:=⟨D.nsl.1,D.nsl.2.imp fun m q=>q.at' fun o e=>k _ o D.nsl.1 e⟩
  turn:=fun a u=>⟨(D.turn a u).1,(D.turn a u).2.imp fun o q=>⟨k a o (D.turn a u).1 q.1,q.2⟩⟩
  pl:=fun i l e=>(D.pl i l e).keep fun o q=>k _ o (D.hi l (List.mem_of_getElem? e)) q
  ok:=fun i t e=>by
   have q:=D.ok i t e
   cases t with
   | unset=>trivial
   | val p=>exact q.imp fun v q=>⟨q.1,q.2.stp D.sub x⟩
   | own c=>exact ContV.move q rfl (fun a o b e=>⟨b,x.off a o (D.sub a b) e⟩) (fun a _ vs n _ _ u e=>k a _ u e) fun a o _ _ _ _ u f e=>⟨f,k a o u e⟩
   | is v=>exact q
   | fn v=>exact q }
theorem Bs.ext (V:Bs Z s) (x:Ext s.heap h') {K:Addr→Prop} {g:Nat}:St Z.X K g s { s with heap:=h',toks:=tk } :=
 ⟨fun a o _ e=>x a o e,fun q=>V.K.Gk _ _ (fun _=>False) q (fun _ f=>f.elim) fun a o _ e=>x a o e,fun _ _ _ e=>e,id,rfl⟩
theorem Bs.toks (V:Bs Z s) {K:Addr→Prop} {g:Nat}:St Z.X K g s { s with toks:=tk }:=V.ext (h':=s.heap) fun _ _ e=>e
theorem Bs.push (V:Bs Z s) {o:Obj} {K:Addr→Prop} {g:Nat}:St Z.X K g s { s with heap:=s.heap.push o,toks:=tk }:=V.ext (Ext.push _ _)
theorem Bs.new (V:Bs Z s):Z.B s.heap.objs.size:=V.fresh _ (V.K.size _ V.g) (get_size _)
theorem Fr.RepL.ext (r:Z.RepL s.heap ps vs) (x:Ext s.heap h'):Z.RepL h' ps vs:=Mine.RepL.move (fun a o k e=>⟨k,x a o e⟩) r
theorem Bs.lst (V:Bs Z s) {Q:Value→Shared→Prop} (r:Z.RepL s.heap ps vs) (h:∀ v s',Stp Z.X Z.X.V s s'→Z.Rep s'.heap (.lst ps) v→Q v s'):Q (.ref s.heap.objs.size) { s with heap:=s.heap.push (lstO vs 0),toks:=tk } :=
 h _ _ V.push (Rep.mkLst V.new (Heap.get?_push_size _ rfl) (r.ext (Ext.push _ _)))
theorem Bs.tup (V:Bs Z s) {Q:Value→Shared→Prop} (r:Z.RepL s.heap ps vs) (h:∀ v s',Stp Z.X Z.X.V s s'→Z.Rep s'.heap (.tup ps) v→Q v s'):Q (.ref s.heap.objs.size) { s with heap:=s.heap.push (tupO vs 0),toks:=tk } :=
 h _ _ V.push (Rep.mkTup V.new (Heap.get?_push_size _ rfl) (r.ext (Ext.push _ _)))
theorem Gets.go {t:Sem Value} {Q:Value→Shared→Prop} {E:Value→Shared→Prop} (g:Gets Z s' p t) (x:Stp Z.X Z.X.V s s') (h:∀ v s'',Stp Z.X Z.X.V s s''→Z.Rep s''.heap p v→Q v s''):wpAny Z.X.M Z.Ar t Q E s':=g Q E fun v s'' y r=>h v s'' (x.trans y) r
theorem GetsB.go {t:Sem Bool} {b:Bool} {Q:Bool→Shared→Prop} {E:Value→Shared→Prop} (g:GetsB Z s' b t) (x:Stp Z.X Z.X.V s s') (h:∀ s'',Stp Z.X Z.X.V s s''→Q b s''):wpAny Z.X.M Z.Ar t Q E s':=g Q E fun s'' y=>h s'' (x.trans y)
end
end Mine
end
section
open PySem PySem.W PyProof.Rows
namespace Mine
def bigLen:Nat:=1000000
noncomputable def sm (i:Int):Bool:=Nat.blt i.natAbs 9223372036854775808
theorem sm_lt {i:Int} (h:sm i=true):i.natAbs < 9223372036854775808:=Nat.blt_eq.mp h
theorem onOpt {α:Type} {o:Option α} {f:α→Option PV} {r:PV} {P:Prop} (e:o.bind f=some r) (k:∀ a,o=some a→f a=some r→P):P:=(Option.bind_eq_some_iff.mp e).elim fun a h=>k a h.1 h.2
theorem onIf {c:Bool} {g r:PV} {M:PV→Prop} (e:(bif c then some g else none)=some r) (k:c=true→M g):M r:=by
 cases c with
 | false=>exact no e
 | true=>exact Option.some.inj e▸k rfl
structure Sc (α:Type) where
 d:PV→Option α
 ve:α→Tok→Value
 rd:∀ {h:Heap} {B:Addr→Prop} {p:PV} {v:Value} {a:α},Rep h B p v→d p=some a→∃ t,v=ve a t
 pv:α→PV
 rp:∀ {h:Heap} {B:Addr→Prop} {a:α} {t:Tok},Rep h B (pv a) (ve a t)
noncomputable def scI:Sc Int:=⟨PV.int?,.int,fun r e=>by rw [PV.is_int e] at r; exact r,.int,Rep.mkInt⟩
noncomputable def scF:Sc UInt64:=⟨PV.flt?,.float,fun r e=>by rw [PV.is_flt e] at r; exact r,.flt,Rep.mkFlt⟩
noncomputable def scS:Sc Str:=⟨PV.str?,.str,fun r e=>by rw [PV.is_str e] at r; exact r,.str,Rep.mkStr⟩
structure B2 (op:Operator) where
 f:PV→PV→Option PV
 ok:∀ {Z:Fr} {s:Shared} {p q r:PV} {v w:Value},Bs Z s→Z.Rep s.heap p v→Z.Rep s.heap q w→f p q=some r→Gets Z s r (binaryOp op v w)
noncomputable def B2.sc {op:Operator} {α β:Type} (A:Sc α) (B:Sc β) (c:α→β→Bool) (g:α→β→PV)
  (k:∀ (Z:Fr) (s:Shared) (a:α) (b:β) (t u:Tok),Bs Z s→c a b=true→Gets Z s (g a b) (binaryOp op (A.ve a t) (B.ve b u))):B2 op :=
 ⟨fun p q=>(A.d p).bind fun a=>(B.d q).bind fun b=>bif c a b then some (g a b) else none,
 fun {Z s p q r v w} V rp rq e=>onOpt e fun a ea e=>onOpt e fun b eb e=>onIf (M:=fun r=>Gets Z s r (binaryOp op v w)) e fun hc=>(A.rd rp ea).elim fun t e1=>(B.rd rq eb).elim fun u e2=>e1▸e2▸k Z s a b t u V hc⟩
section
variable {Z:Fr} {s:Shared} {t u:Tok}
theorem Bs.int (V:Bs Z s) {i:Int} {k tk:Nat} {Q:Value→Shared→Prop} (h:∀ v s',Stp Z.X Z.X.V s s'→Z.Rep s'.heap (.int i) v→Q v s'):Q (.int i k) { s with toks:=tk }:=h _ _ V.toks Rep.mkInt
theorem Bs.flt (V:Bs Z s) {i:UInt64} {k tk:Nat} {Q:Value→Shared→Prop} (h:∀ v s',Stp Z.X Z.X.V s s'→Z.Rep s'.heap (.flt i) v→Q v s'):Q (.float i k) { s with toks:=tk }:=h _ _ V.toks Rep.mkFlt
theorem Bs.str (V:Bs Z s) {i:Str} {k tk:Nat} {Q:Value→Shared→Prop} (h:∀ v s',Stp Z.X Z.X.V s s'→Z.Rep s'.heap (.str i) v→Q v s'):Q (.str i k) { s with toks:=tk }:=h _ _ V.toks Rep.mkStr
theorem nat_log {a:Nat} (h:a < 9223372036854775808):a.log2 < 63:=by
 cases a with
 | zero=>decide
 | succ n=>exact (Nat.log2_lt (Nat.succ_ne_zero n)).mpr h
end
noncomputable def tt {α β:Type} (_:α) (_:β):Bool:=true
noncomputable def nz (b:Int):Bool:=!(b==0)
theorem nz_ne {b:Int} (h:nz b=true):b≠0:=by simpa [nz] using h
theorem nz_eq {b:Int} (h:nz b=true):(b==0)=false:=by simpa [nz] using h
theorem both {a b:Bool} (h:(a&&b)=true):a=true∧b=true:=Bool.and_eq_true_iff.mp h
theorem not_eq {a:Bool} (h:(!a)=true):a=false:=by simpa using h
theorem if_false {a:Bool} {P R:Prop} (e:a=false) (h:R):if a=true then P else R:=by rw [e]; exact h
noncomputable def le0 (b:Int) (n:Nat):Bool:=decide (0≤b)&&Nat.ble b.toNat n
theorem le0_is {b:Int} {n:Nat} (h:le0 b n=true):0≤b∧b≤n:=⟨of_decide_eq_true (both h).1,Int.toNat_le.mp (Nat.ble_eq.mp (both h).2)⟩
theorem sm_lt64 {a:Int} (h:sm a=true):a.natAbs < 2 ^ 64:=Nat.lt_trans (sm_lt h) (by decide)
noncomputable def addII:B2 .Add:=.sc scI scI tt (fun a b=>.int (a+b)) fun Z s a b t u V _ Q E h=>add_int (V.int h)
noncomputable def subII:B2 .Sub:=.sc scI scI tt (fun a b=>.int (a - b)) fun Z s a b t u V _ Q E h=>sub_int (V.int h)
noncomputable def mulII:B2 .Mult:=.sc scI scI (fun a _=>sm a) (fun a b=>.int (a * b)) fun Z s a b t u V c Q E h=>mul_int (V.int h) (IntMulOk.of_left (PyProof.Rows.intBits_le (sm_lt64 c)))
noncomputable def modII:B2 .Mod:=.sc scI scI (fun _ b=>nz b) (fun a b=>.int (Int.fmod a b)) fun Z s a b t u V c Q E h=>mod_int' (nz_ne c) (V.int h)
noncomputable def fdivII:B2 .FloorDiv:=.sc scI scI (fun _ b=>nz b&&sm b) (fun a b=>.int (Int.fdiv a b)) fun Z s a b t u V c Q E h =>
 floordiv_int (nz_ne (both c).1) (V.int h) (.inl (PyProof.noPylong_of_log2 (Nat.lt_trans (nat_log (sm_lt (both c).2)) (by decide))))
noncomputable def powII:B2 .Pow:=.sc scI scI (fun a b=>le0 b 1000000&&sm a) (fun a b=>.int (a ^ Int.toNat b)) fun Z s a b t u V c Q E h =>
 pow_int_small (le0_is (both c).1).1 (le0_is (both c).1).2 (sm_lt64 (both c).2) (V.int h)
noncomputable def lshII:B2 .LShift:=.sc scI scI (fun a b=>le0 b 1000000&&sm a) (fun a b=>.int (a * 2 ^ Int.toNat b)) fun Z s a b t u V c Q E h =>
 lshift_int_small (le0_is (both c).1).1 (le0_is (both c).1).2 (sm_lt64 (both c).2) (V.int h)
noncomputable def rshII:B2 .RShift:=.sc scI scI (fun _ b=>decide (0≤b)) (fun a b=>.int (Int.fdiv a (2 ^ Int.toNat b))) fun Z s a b t u V c Q E h=>rshift_int (of_decide_eq_true c) (V.int h)
noncomputable def xorII:B2 .BitXor:=.sc scI scI tt (fun a b=>.int (Builtin.bitXor a b)) fun Z s a b t u V _ Q E h=>xor_int (V.int h)
noncomputable def fracII (a b:Int):UInt64:=Float64.ofFrac (decide (a < 0) != decide (b < 0)) a.natAbs b.natAbs
noncomputable def divII:B2 .Div:=.sc scI scI (fun a b=>nz b&&!Float64.isInf (fracII a b)) (fun a b=>.flt (fracII a b)) fun Z s a b t u V c Q E h =>
 AutoIntOpsIf.truediv (if_false (nz_eq (both c).1) (if_false (not_eq (both c).2) (V.flt h)))
noncomputable def addFF:B2 .Add:=.sc scF scF tt (fun a b=>.flt (Float64.add a b)) fun Z s a b t u V _ Q E h=>add_float (V.flt h)
noncomputable def subFF:B2 .Sub:=.sc scF scF tt (fun a b=>.flt (Float64.sub a b)) fun Z s a b t u V _ Q E h=>sub_float (V.flt h)
noncomputable def mulFF:B2 .Mult:=.sc scF scF tt (fun a b=>.flt (Float64.mul a b)) fun Z s a b t u V _ Q E h=>mul_float (V.flt h)
noncomputable def divFF:B2 .Div:=.sc scF scF (fun _ b=>!Float64.isZero b) (fun a b=>.flt (Float64.div a b)) fun Z s a b t u V c Q E h=>AutoFloatOpsIf.truediv (if_false (not_eq c) (V.flt h))
noncomputable def modFF:B2 .Mod:=.sc scF scF (fun _ b=>!Float64.isZero b) (fun a b=>.flt (Float64.divmod a b).snd) fun Z s a b t u V c Q E h=>AutoFloatOpsIf.mod (if_false (not_eq c) (V.flt h))
noncomputable def inI (b:Int):Bool:=!Float64.isInf (Float64.ofInt b)
noncomputable def addFI:B2 .Add:=.sc scF scI (fun _ b=>inI b) (fun a b=>.flt (Float64.add a (Float64.ofInt b))) fun Z s a b t u V c Q E h=>AutoFloatOpsIf.add_fi (if_false (not_eq c) (V.flt h))
noncomputable def subFI:B2 .Sub:=.sc scF scI (fun _ b=>inI b) (fun a b=>.flt (Float64.sub a (Float64.ofInt b))) fun Z s a b t u V c Q E h=>AutoFloatOpsIf.sub_fi (if_false (not_eq c) (V.flt h))
noncomputable def mulIF:B2 .Mult:=.sc scI scF (fun b _=>inI b) (fun b a=>.flt (Float64.mul (Float64.ofInt b) a)) fun Z s b a t u V c Q E h=>AutoFloatOpsIf.mul_if (if_false (not_eq c) (V.flt h))
noncomputable def fits (n:Nat):Bool:=Nat.ble n bigLen
theorem fits_le {n:Nat} (h:fits n=true):n≤1000000:=Nat.ble_eq.mp h
theorem le_line {n:Nat} (h:n≤1000000):n≤sizeLine:=Nat.le_trans h (by decide)
noncomputable def addSS:B2 .Add:=.sc scS scS (fun x y=>fits (x.length+y.length)) (fun x y=>.str (x++y)) fun Z s x y t u V c Q E h=>add_str (fun _ _=>V.str h) (le_line (fits_le c))
noncomputable def repS (x:Str) (n:Nat):Str:=⟨(List.replicate n x.cps.toList).flatten.toArray⟩
theorem foldl_rep {α:Type} (c:List α):∀ (k:Nat) (acc:List α),(List.replicate k c.toArray).foldl (fun x y=>x++y) acc.toArray=(acc++(List.replicate k c).flatten).toArray
 | 0,acc=>by rw [List.replicate_zero,List.replicate_zero,List.flatten_nil,List.append_nil]; rfl
 | k+1,acc=>by rw [List.replicate_succ,List.foldl_cons,List.append_toArray,foldl_rep c k,List.replicate_succ,List.flatten_cons,List.append_assoc]
theorem mul_is (x:Str) (n:Int):Txt.mul x n=repS x n.toNat:=by
 unfold Txt.mul repS
 split
 ·rename_i h
  rw [Int.toNat_of_nonpos (Int.lt_add_one_iff.mp h)]; rfl
 ·split
  ·rename_i h1 h2
   obtain ⟨⟨c⟩⟩:=x
   rcases Bool.or_eq_true_iff.mp h2 with q | q
   ·obtain rfl:n=1:=by simpa using q
    simp
   ·obtain rfl:c=[]:=List.eq_nil_of_length_eq_zero (by simpa [Str.length] using q)
    simp
  ·exact congrArg Str.mk (foldl_rep x.cps.toList n.toNat [])
noncomputable def few (n:Int):Bool:=sm n&&fits n.toNat
theorem few_is {n:Int} (h:few n=true):-2 ^ 63≤n∧n≤1000000:=by
 have a:=sm_lt (both h).1
 exact ⟨by omega,Int.toNat_le.mp (fits_le (both h).2)⟩
theorem few_lt {n:Int} (h:few n=true):n < 2 ^ 63:=Int.lt_of_le_of_lt (few_is h).2 (by decide)
noncomputable def mulSI:B2 .Mult:=.sc scS scI (fun x n=>few n&&fits (x.length * n.toNat)) (fun x n=>.str (repS x n.toNat)) fun Z s x n t u V c Q E h =>
 PySem.SB.mul (PyProof.Rows.mulOk_of x.length n.toNat (Nat.le_refl _) (Int.self_le_toNat n) (few_is (both c).1).1 (Nat.le_trans (fits_le (both (both c).1).2) (by decide)) (Nat.le_trans (fits_le (both c).2) (by decide))) (fun _ _=>mul_is x n▸V.str h)
section
variable {Z:Fr} {s:Shared} {p q r:PV} {v w:Value} {xs ys:List PV} {a b:Addr} {vs ws:List Value} {n m:Nat} {c:Int} {u:Tok}
theorem Fr.Rep.lst (R:Z.Rep s.heap p v) (e:p.lst?=some xs) {M:Value→Prop} (k:∀ a n vs,Z.B a→s.heap.get? a=some (lstO vs n)→Z.RepL s.heap xs vs→M (.ref a)):M v:=Mine.Rep.onLst (PV.is_lst e▸R) k
theorem Fr.Rep.tup (R:Z.Rep s.heap p v) (e:p.tup?=some xs) {M:Value→Prop} (k:∀ a n vs,Z.B a→s.heap.get? a=some (tupO vs n)→Z.RepL s.heap xs vs→M (.ref a)):M v:=Mine.Rep.onTup (PV.is_tup e▸R) k
theorem Fr.RepL.len (r:Z.RepL s.heap xs vs):vs.length=xs.length:=Mine.RepL.length r
theorem Fr.RepL.size (r:Z.RepL s.heap xs vs):vs.toArray.size=xs.length:=r.len
theorem add_lists (V:Bs Z s) (ha:s.heap.get? a=some (lstO vs n)) (hb:s.heap.get? b=some (lstO ws m)) (ra:Z.RepL s.heap xs vs) (rb:Z.RepL s.heap ys ws) (c:fits (xs.length+ys.length)=true) :
  Gets Z s (.lst (xs++ys)) (binaryOp .Add (.ref a) (.ref b)):=fun Q E h =>
 PySem.P.add_list (items:=vs.toArray) (items2:=ws.toArray) (n:=n) (n2:=m) ha hb ((List.append_toArray vs ws).symm▸V.lst (Mine.RepL.append rb ra) h) (ra.size▸rb.size▸le_line (fits_le c))
theorem Mine.RepL.rep {h:Heap} {B:Addr→Prop} (r:Mine.RepL h B xs vs):∀ k:Nat,Mine.RepL h B (List.replicate k xs).flatten (List.replicate k vs).flatten
 | 0=>RepL.nil
 | k+1=>by rw [List.replicate_succ,List.replicate_succ,List.flatten_cons,List.flatten_cons]; exact RepL.append (Mine.RepL.rep r k) r
theorem rep_fold (vs:List Value) (k:Nat):List.foldl (fun x1 x2=>x1++x2) #[] (List.replicate (if vs.toArray.isEmpty=true then 0 else k) vs.toArray)=((List.replicate k vs).flatten).toArray:=by
 cases vs with
 | nil=>simp
 | cons v vs=>exact foldl_rep (v::vs) k []
theorem fitsIdx {c:Int} (a:-2 ^ 63≤c) (b:c < 2 ^ 63):¬(!Builtin.List.listFitsIndex c)=true:=by unfold Builtin.List.listFitsIndex; simp; omega
theorem not_long {n:Nat} (h:n≤1000000):¬ Builtin.List.listTooLong n=true:=by
 unfold Builtin.List.listTooLong
 rw [decide_eq_true_eq]
 exact Nat.not_lt.mpr (le_line h)
theorem mul_list (V:Bs Z s) (ha:s.heap.get? a=some (lstO vs n)) (ra:Z.RepL s.heap xs vs) (h1:few c=true) (h2:fits (xs.length * c.toNat)=true) :
  Gets Z s (.lst (List.replicate c.toNat xs).flatten) (binaryOp .Mult (.ref a) (.int c u)):=fun Q E h =>
 wpAny_binaryOp_repeat_ref (T:="list") (U:="int") (by decide) ⟨_,ha,rfl⟩ (fun s'=>typeIs_int s' c u) noFill_list_mul F.fills_int_mul F.slot_int_rmul repeat_list F.slot_int_index.lookup
  (call_meets F.slot_int_rmul (typeIs_int s c u) F.entry_int_rmul (F.args_int_rmul_2 _ _) (int___rmul___int_list c u a vs.toArray n)
   ⟨ha,rfl,⟨_,ha,rfl⟩,call_meets F.slot_list_mul ⟨_,ha,rfl⟩ F.entry_list_mul (F.args_list_mul_2 _ _)
    (AutoListH.list___mul___list_int_3 a vs.toArray n c u (fitsIdx (few_is h1).1 (few_lt h1)) (by rw [ra.size]; exact Nat.not_lt.mpr (Nat.le_trans (fits_le h2) (by decide)))
     (by rw [ra.size]; exact not_long (fits_le h2)))
    ⟨ha,rep_fold vs c.toNat▸V.lst (Mine.RepL.rep ra c.toNat) h⟩⟩)
end
noncomputable def addLL:B2 .Add:=⟨fun p q=>p.lst?.bind fun a=>q.lst?.bind fun b=>bif fits (a.length+b.length) then some (.lst (a++b)) else none,
 fun {Z s p q r v w} V rp rq e=>onOpt e fun a ea e=>onOpt e fun b eb e=>onIf (M:=fun r=>Gets Z s r (binaryOp .Add v w)) e fun hc =>
  rp.lst ea (M:=fun v=>Gets Z s _ (binaryOp .Add v w)) fun _ _ _ _ h1 r1=>rq.lst eb (M:=fun w=>Gets Z s _ (binaryOp .Add _ w)) fun _ _ _ _ h2 r2=>add_lists V h1 h2 r1 r2 hc⟩
noncomputable def mulLI:B2 .Mult:=⟨fun p q=>p.lst?.bind fun a=>q.int?.bind fun b=>bif few b&&fits (a.length * b.toNat) then some (.lst (List.replicate b.toNat a).flatten) else none,
 fun {Z s p q r v w} V rp rq e=>onOpt e fun a ea e=>onOpt e fun b eb e=>onIf (M:=fun r=>Gets Z s r (binaryOp .Mult v w)) e fun hc =>
  rp.lst ea (M:=fun v=>Gets Z s _ (binaryOp .Mult v w)) fun _ _ _ _ h1 r1=>(scI.rd rq eb).elim fun u e2=>e2▸mul_list V h1 r1 (both hc).1 (both hc).2⟩
end Mine
end
section
open PySem PySem.W PyProof.Rows
namespace Mine
open PySem.SeqAt
theorem lst_is {h:Heap} {a:Addr} {vs:List Value} {n:Nat} (e:h.get? a=some (lstO vs n)):h.IsList a vs.toArray:=⟨_,e,rfl,n,rfl⟩
theorem tup_is {h:Heap} {a:Addr} {vs:List Value} {n:Nat} (e:h.get? a=some (tupO vs n)):h.IsTuple a vs.toArray:=⟨_,e,rfl,n,rfl⟩
theorem lst_inj {o:Option Obj} {vs ws:List Value} {n m:Nat} (e:o=some (lstO vs n)) (e':o=some (lstO ws m)):vs=ws:=by
 rw [e] at e'
 injection e' with e'; injection e' with _ _ e' _; injection e' with e' _; injection e' with e'
theorem tup_inj {o:Option Obj} {vs ws:List Value} {n m:Nat} (e:o=some (tupO vs n)) (e':o=some (tupO ws m)):vs=ws:=by
 rw [e] at e'
 injection e' with e'; injection e' with _ _ e' _; injection e' with e' _; injection e' with e'
def eqL (f:PV→PV→Option Bool):List PV→List PV→Option Bool
 | [],ys=>some ys.isEmpty
 | x::xs,ys=>List.casesOn ys (some false) fun y ys=>(f x y).bind fun a=>(eqL f xs ys).map (a&&·)
noncomputable def eqStep (f:PV→PV→Option Bool) (p q:PV):Option Bool:=PV.casesOn (motive_1:=fun _=>Option Bool) p none (fun b=>q.bool?.map (b==·)) (fun i=>q.int?.map (i==·)) (fun _=>none)
 (fun x=>q.str?.map (x==·)) (fun xs=>q.tup?.bind (eqL f xs)) (fun xs=>q.lst?.bind (eqL f xs)) (fun _ _=>none) fun _ _=>none
noncomputable def eqd (n:Nat):PV→PV→Option Bool:=Nat.rec (fun _ _=>none) (fun _ f=>eqStep f) n
theorem onMap {α β:Type} {o:Option α} {f:α→β} {r:β} {P:Prop} (e:o.map f=some r) (k:∀ a,o=some a→f a=r→P):P:=(Option.map_eq_some_iff.mp e).elim fun a h=>k a h.1 h.2
theorem onBind {α β:Type} {o:Option α} {f:α→Option β} {r:β} {P:Prop} (e:o.bind f=some r) (k:∀ a,o=some a→f a=some r→P):P:=(Option.bind_eq_some_iff.mp e).elim fun a h=>k a h.1 h.2
theorem all_succ (n:Nat) (e:Nat→Bool):(List.range (n+1)).all e=(e 0&&(List.range n).all fun j=>e (j+1)):=by rw [List.range_succ_eq_map,List.all_cons,List.all_map]; rfl
theorem succ_beq (m n:Nat):(m+1==n+1)=(m==n):=by simp
theorem eqL_at {f:PV→PV→Option Bool} {P:Prop}:∀ {xs ys:List PV} {k:Bool},eqL f xs ys=some k →
  (∀ e:Nat→Bool,(∀ (j:Nat) (p q:PV),xs[j]?=some p→ys[j]?=some q→f p q=some (e j))→k=((List.range (min xs.length ys.length)).all e&&xs.length==ys.length)→P)→P
 | [],ys,_,h,c=>c (fun _=>true) (fun _ _ _ e=>no e) (by rw [← Option.some.inj h]; cases ys <;> simp)
 | _::_,[],_,h,c=>c (fun _=>true) (fun _ _ _ _ e=>no e) (Option.some.inj h).symm
 | x::xs,y::ys,_,h,c=>onBind h fun a h1 h=>onMap h fun b h2 h=>eqL_at h2 fun e he hk=>c (fun j=>Nat.casesOn j a e)
   (fun j=>Nat.casesOn j (fun p q e1 e2=>Option.some.inj e1▸Option.some.inj e2▸h1) fun j=>he j)
   (by rw [List.length_cons,List.length_cons,Nat.succ_min_succ,all_succ,← h,hk,Bool.and_assoc,succ_beq]; rfl)
structure Eqs (Ar:Around) (s:Shared) (v w:Value) (k:Bool):Prop where
 rc:RcAt Ar s v w k
 eq:EqAt Ar s v w k
 ne:RcNeAt Ar s v w (!k)
 self:v=w→k=true
section
variable {Ar:Around} {s:Shared} {B:Addr→Prop} {f:PV→PV→Option Bool} {a b:Addr} {vs ws:List Value} {n m:Nat} {xs ys:List PV} {k:Bool}
theorem eq_items (ra:Mine.RepL s.heap B xs vs) (rb:Mine.RepL s.heap B ys ws) (hf:∀ p q k v w,Mine.Rep s.heap B p v→Mine.Rep s.heap B q w→f p q=some k→Eqs Ar.in1 s v w k) {e:Nat→Bool}
  (he:∀ (j:Nat) (p q:PV),xs[j]?=some p→ys[j]?=some q→f p q=some (e j)) (j:Nat) (h1:j < vs.toArray.size) (h2:j < ws.toArray.size):EqAt Ar.in1 s vs.toArray[j] ws.toArray[j] (e j) :=
 (ra.get' (List.getElem?_eq_getElem (show j < vs.length from h1))).elim fun p r=>(rb.get' (List.getElem?_eq_getElem (show j < ws.length from h2))).elim fun q r'=>(hf p q _ _ _ r.2 r'.2 (he j p q r.1 r'.1)).eq
theorem eqL_self (hf:∀ p q k v,Mine.Rep s.heap B p v→Mine.Rep s.heap B q v→f p q=some k→k=true):∀ {xs ys vs k},Mine.RepL s.heap B xs vs→Mine.RepL s.heap B ys vs→eqL f xs ys=some k→k=true
 | [],ys,vs,_,r,r',e=>by rw [← Option.some.inj e,List.isEmpty_iff_length_eq_zero,← RepL.length r',RepL.length r]; rfl
 | x::xs,[],vs,_,r,r',e=>absurd ((RepL.length r).symm.trans (RepL.length r')) nofun
 | x::xs,y::ys,vs,_,r,r',e=>onBind e fun a h1 e=>onMap e fun b h2 e=>by
  obtain ⟨v,vs,rfl,r1,r2⟩:=r
  obtain ⟨v',vs',e',r3,r4⟩:=r'
  injection e' with e1 e2
  subst e1 e2
  rw [← e,hf _ _ _ _ r1 r3 h1,eqL_self hf r2 r4 h2]; rfl
theorem refs_eqs (rc:RcAt Ar s (.ref a) (.ref b) k) (ne:RcNeAt Ar s (.ref a) (.ref b) (!k)) (h:a=b→k=true):Eqs Ar s (.ref a) (.ref b) k :=
 ⟨rc,(Decidable.em (a=b)).elim (fun q=>by subst q; rw [h rfl]; exact EqAt.same _) fun q=>EqAt.of_refs q rc,ne,fun q=>h (Value.ref.inj q)⟩
theorem eq_tups (ha:s.heap.get? a=some (tupO vs n)) (hb:s.heap.get? b=some (tupO ws m)) (ra:Mine.RepL s.heap B xs vs) (rb:Mine.RepL s.heap B ys ws) (hu:Ar.units < cLine)
  (hf:∀ p q k v w,Mine.Rep s.heap B p v→Mine.Rep s.heap B q w→f p q=some k→Eqs Ar.in1 s v w k) (e:eqL f xs ys=some k):Eqs Ar s (.ref a) (.ref b) k :=
 eqL_at e fun g he hk=>by
  have q:=eq_items ra rb hf he
  have h1:=RcAt.tuples (tup_is ha) (tup_is hb) hu q
  have h2:=RcNeAt.tuples (tup_is ha) (tup_is hb) hu q
  rw [show vs.toArray.size=xs.length from ra.length,show ws.toArray.size=ys.length from rb.length,← hk] at h1 h2
  exact refs_eqs h1 h2 fun q=>by subst q; obtain rfl:=tup_inj ha hb; exact eqL_self (fun p q k v r r' e=>(hf p q k v v r r' e).self rfl) ra rb e
theorem eq_lsts (ha:s.heap.get? a=some (lstO vs n)) (hb:s.heap.get? b=some (lstO ws m)) (ra:Mine.RepL s.heap B xs vs) (rb:Mine.RepL s.heap B ys ws) (hu:Ar.units < cLine)
  (hf:∀ p q k v w,Mine.Rep s.heap B p v→Mine.Rep s.heap B q w→f p q=some k→Eqs Ar.in1 s v w k) (e:eqL f xs ys=some k):Eqs Ar s (.ref a) (.ref b) k :=
 eqL_at e fun g he hk=>by
  have q:=eq_items ra rb hf he
  have fin:RcAt Ar s (.ref a) (.ref b) k∧RcNeAt Ar s (.ref a) (.ref b) (!k):=by
   cases z:vs.toArray.size != ws.toArray.size
   ·have z:=not_eq (a:=vs.toArray.size != ws.toArray.size) (by rw [z]; rfl)
    have z:vs.toArray.size=ws.toArray.size:=by simpa using z
    have h1:=RcAt.lists (lst_is ha) (lst_is hb) z hu q
    have h2:=RcNeAt.lists (lst_is ha) (lst_is hb) z hu q
    have z':xs.length=ys.length:=(show vs.toArray.size=xs.length from ra.length)▸(show ws.toArray.size=ys.length from rb.length)▸z
    rw [z',Nat.min_self,beq_self_eq_true,Bool.and_true] at hk
    rw [show vs.toArray.size=ys.length from ra.length.trans z',← hk] at h1 h2
    exact ⟨h1,h2⟩
   ·have z':(xs.length==ys.length)=false:=by rw [← show vs.toArray.size=xs.length from ra.length,← show ws.toArray.size=ys.length from rb.length]; simpa using z
    rw [z',Bool.and_false] at hk
    subst hk
    exact ⟨RcAt.lists_lengths (lst_is ha) (lst_is hb) z hu,RcNeAt.lists_lengths (lst_is ha) (lst_is hb) z hu⟩
  exact refs_eqs fin.1 fin.2 fun q=>by subst q; obtain rfl:=lst_inj ha hb; exact eqL_self (fun p q k v r r' e=>(hf p q k v v r r' e).self rfl) ra rb e
theorem eqd_ok:∀ (n:Nat) {Ar:Around} {p q:PV} {k:Bool} {v w:Value},Ar.units+n < cLine→Mine.Rep s.heap B p v→Mine.Rep s.heap B q w→eqd n p q=some k→Eqs Ar s v w k
 | 0,_,_,_,_,_,_,_,_,_,e=>no e
 | n+1,Ar,p,q,k,v,w,hu,rp,rq,e=>by
  have u0:Ar.units < cLine:=Nat.lt_of_le_of_lt (Nat.le_add_right _ _) hu
  have ih:∀ p q k v w,Mine.Rep s.heap B p v→Mine.Rep s.heap B q w→eqd n p q=some k→Eqs Ar.in1 s v w k:=fun p q k v w=>eqd_ok n (Ar:=Ar.in1) (show Ar.units+1+n < cLine by rw [Nat.add_assoc,Nat.add_comm 1]; exact hu)
  cases p with
  | none=>exact no e
  | flt x=>exact no e
  | obj C fs=>exact no e
  | dic ks fs=>exact no e
  | bool a =>
   refine onMap e fun b h1 h=>?_
   rw [PV.is_bool h1] at rq
   obtain rfl:v=_:=rp
   obtain rfl:w=_:=rq
   subst h
   exact ⟨RcAt.bool_bool _ _,EqAt.bool_bool _ _,RcNeAt.bool_bool _ _,fun q=>by cases q; exact beq_self_eq_true _⟩
  | int a =>
   refine onMap e fun b h1 h=>?_
   rw [PV.is_int h1] at rq
   obtain ⟨t,rfl⟩:=rp
   obtain ⟨u,rfl⟩:=rq
   subst h
   exact ⟨RcAt.int_int _ _ _ _,EqAt.int_int _ _ _ _,RcNeAt.int_int _ _ _ _,fun q=>by cases q; exact beq_self_eq_true _⟩
  | str a =>
   refine onMap e fun b h1 h=>?_
   rw [PV.is_str h1] at rq
   obtain ⟨t,rfl⟩:=rp
   obtain ⟨u,rfl⟩:=rq
   subst h
   exact ⟨RcAt.str_str _ _ _ _,EqAt.str_str _ _ _ _,RcNeAt.str_str _ _ _ _,fun q=>by cases q; exact beq_self_eq_true _⟩
  | tup xs =>
   refine onBind e fun ys h1 h=>?_
   rw [PV.is_tup h1] at rq
   exact rp.onTup (M:=fun v=>Eqs Ar s v w k) fun a n vs _ ha ra=>rq.onTup (M:=fun w=>Eqs Ar s _ w k) fun b m ws _ hb rb=>eq_tups ha hb ra rb u0 ih h
  | lst xs =>
   refine onBind e fun ys h1 h=>?_
   rw [PV.is_lst h1] at rq
   exact rp.onLst (M:=fun v=>Eqs Ar s v w k) fun a n vs _ ha ra=>rq.onLst (M:=fun w=>Eqs Ar s _ w k) fun b m ws _ hb rb=>eq_lsts ha hb ra rb u0 ih h
end
end Mine
end
section
open PySem PySem.W PyProof.Rows
namespace Mine
open PySem.SeqAt
structure C2 (op:CmpOp) where
 f:PV→PV→Option Bool
 ok:∀ {Z:Fr} {s:Shared} {p q:PV} {k:Bool} {v w:Value} {Q:Value→Shared→Prop} {E:Value→Shared→Prop},Bs Z s→Z.Rep s.heap p v→Z.Rep s.heap q w→f p q=some k→Q (.bool k) s→wpAny Z.X.M Z.Ar (compareOp op v w) Q E s
noncomputable def C2.sc {op:CmpOp} {α β:Type} (A:Sc α) (B:Sc β) (g:α→β→Bool)
  (k:∀ (M:Program) (w:World) (Ar:Around) (s:Shared) (a:α) (b:β) (t u:Tok) (Q:Value→Shared→Prop) (E:Value→Shared→Prop),Q (.bool (g a b)) s→wpAny (model M w) Ar (compareOp op (A.ve a t) (B.ve b u)) Q E s):C2 op :=
 ⟨fun p q=>(A.d p).bind fun a=>(B.d q).map fun b=>g a b,
 fun {Z s p q r v w Q E} V rp rq e h=>onBind e fun a ea e=>onMap e fun b eb e=>(A.rd rp ea).elim fun t e1=>(B.rd rq eb).elim fun u e2=>by subst e1 e2 e; exact k _ _ _ _ _ _ _ _ _ _ h⟩
section
variable {M:Program} {W:World} {Ar:Around} {s:Shared}
noncomputable def ltII:C2 .Lt:=.sc scI scI (fun a b=>decide (a < b)) fun _ _ _ _ _ _ _ _ _ _ h=>PySem.P.lt_int h
noncomputable def leII:C2 .LtE:=.sc scI scI (fun a b=>decide (a≤b)) fun _ _ _ _ _ _ _ _ _ _ h=>PySem.P.le_int h
noncomputable def gtII:C2 .Gt:=.sc scI scI (fun a b=>decide (a > b)) fun _ _ _ _ _ _ _ _ _ _ h=>PySem.P.gt_int h
noncomputable def geII:C2 .GtE:=.sc scI scI (fun a b=>decide (a ≥ b)) fun _ _ _ _ _ _ _ _ _ _ h=>PySem.P.ge_int h
noncomputable def ltFF:C2 .Lt:=.sc scF scF (fun a b=>Float64.cmp a b==some .lt) fun _ _ _ _ _ _ _ _ _ _ h=>AutoFloatOps.lt_0 h
noncomputable def leFF:C2 .LtE:=.sc scF scF (fun a b=>Float64.cmp a b==some .lt || Float64.cmp a b==some .eq) fun _ _ _ _ _ _ _ _ _ _ h=>AutoFloatOps.le_0 h
noncomputable def eqFF:C2 .Eq:=.sc scF scF (fun a b=>Float64.cmp a b==some .eq) fun _ _ _ _ _ _ _ _ _ _ h=>AutoFloatOps.eq_0 h
noncomputable def notInSS:C2 .NotIn:=.sc scS scS (fun y x=>!Txt.contains x y) fun _ _ _ _ _ _ _ _ _ _ h=>PySem.SB.notContains h
end
theorem units6 {Z:Fr} {s:Shared} (V:Bs Z s):Z.Ar.units+6 < cLine:=Nat.lt_of_le_of_lt (Nat.add_le_add_left (by decide) _) V.R.units
noncomputable def eqD:C2 .Eq:=⟨eqd 6,fun V rp rq e h=>(eqd_ok 6 (units6 V) rp rq e).rc _ _ _ _ h⟩
noncomputable def neD:C2 .NotEq:=⟨fun p q=>(eqd 6 p q).map not,fun V rp rq e h=>onMap e fun _ e2 e1=>by subst e1; exact (eqd_ok 6 (units6 V) rp rq e2).ne _ _ _ _ h⟩
section
variable {Z:Fr} {s:Shared} {p q r:PV} {v w:Value} {xs ys:List PV} {vs ws:List Value}
theorem plain_none (rp:Z.Rep s.heap p v):plainIs v .none=true∧(v==.none)=p.isNone:=by
 cases p with
 | none=>obtain rfl:v=_:=rp; exact ⟨rfl,rfl⟩
 | bool b=>obtain rfl:v=_:=rp; exact ⟨rfl,rfl⟩
 | int i=>obtain ⟨t,rfl⟩:=rp; exact ⟨rfl,rfl⟩
 | flt i=>obtain ⟨t,rfl⟩:=rp; exact ⟨rfl,rfl⟩
 | str i=>obtain ⟨t,rfl⟩:=rp; exact ⟨rfl,rfl⟩
 | tup xs=>exact Mine.Rep.onTup rp (M:=fun v=>plainIs v .none=true∧(v==.none)=false) fun _ _ _ _ _ _=>⟨rfl,rfl⟩
 | lst xs=>exact Mine.Rep.onLst rp (M:=fun v=>plainIs v .none=true∧(v==.none)=false) fun _ _ _ _ _ _=>⟨rfl,rfl⟩
 | obj C fs=>obtain ⟨_,⟨_,_,_,_,rfl,_⟩,_⟩:=rp; exact ⟨rfl,rfl⟩
 | dic ks fs=>obtain ⟨_,⟨_,rfl,_⟩,_⟩:=rp; exact ⟨rfl,rfl⟩
noncomputable def isN:C2 .Is:=⟨fun p q=>bif q.isNone then some p.isNone else none,fun {Z s p q k v w Q E} V rp rq e h=>by
 cases n:q.isNone with
 | false=>rw [n] at e; exact no e
 | true =>
  rw [n] at e
  rw [PV.is_none n] at rq
  obtain rfl:w=_:=rq
  refine wpAny_is_plain (plain_none rp).1 ?_
  rw [(plain_none rp).2,Option.some.inj e]; exact h⟩
theorem bool_beq:∀ x y:Bool,plainIs (.bool x) (.bool y)=true∧(Value.bool x==Value.bool y)=(x==y):=by decide
noncomputable def isB:C2 .Is:=⟨fun p q=>p.bool?.bind fun a=>q.bool?.map fun b=>a==b,fun {Z s p q k v w Q E} V rp rq e h=>onBind e fun a ea e=>onMap e fun b eb e=>by
 rw [PV.is_bool ea] at rp
 rw [PV.is_bool eb] at rq
 obtain rfl:v=_:=rp
 obtain rfl:w=_:=rq
 subst e
 exact wpAny_is_plain (bool_beq a b).1 ((bool_beq a b).2▸h)⟩
noncomputable def truth (p:PV):Option Bool:=PV.casesOn (motive_1:=fun _=>Option Bool) p (some false) some (fun i=>some (i != 0)) (fun _=>none) (fun _=>none) (fun xs=>bif fits xs.length then some (!xs.isEmpty) else none) (fun xs=>bif fits xs.length then some (!xs.isEmpty) else none) (fun _ _=>none) fun _ _=>none
theorem onIfB {c:Bool} {g r:Bool} {M:Bool→Prop} (e:(bif c then some g else none)=some r) (k:c=true→M g):M r:=by
 cases c with
 | false=>exact no e
 | true=>exact Option.some.inj e▸k rfl
theorem empty_eq (r:Z.RepL s.heap xs vs):(!vs.toArray.isEmpty)=!xs.isEmpty:=by
 cases xs with
 | nil=>obtain rfl:vs=[]:=r; rfl
 | cons x xs=>obtain ⟨v,vs,rfl,_⟩:=r; rfl
theorem size63 (r:Z.RepL s.heap xs vs) (h:fits xs.length=true):(vs.toArray.size:Int) < 2 ^ 63:=by
 rw [r.size]
 exact Int.lt_of_le_of_lt (Int.ofNat_le.mpr (fits_le h)) (by decide)
theorem truth_ok (V:Bs Z s) (rp:Z.Rep s.heap p v) {k:Bool} (e:truth p=some k):GetsB Z s k (truthy v):=fun Q E h=>by
 cases p with
 | none=>obtain rfl:v=_:=rp; exact PyProof.Rows.truthy_none (Option.some.inj e▸h s .refl)
 | bool b=>obtain rfl:v=_:=rp; exact wpAny_truthy_bool (Option.some.inj e▸h s .refl)
 | int i=>obtain ⟨t,rfl⟩:=rp; exact PySem.P.truthy_int (Option.some.inj e▸h s .refl)
 | flt i=>exact no e
 | str i=>exact no e
 | obj C fs=>exact no e
 | dic ks fs=>exact no e
 | tup xs =>
  revert h
  exact onIfB e (M:=fun k=>(∀ s',Stp Z.X Z.X.V s s'→Q k s')→_) fun c h=>Mine.Rep.onTup rp (M:=fun v=>wpAny Z.X.M Z.Ar (truthy v) Q E s) fun a n vs _ ha ra=>truthy_tuple ⟨_,ha,rfl,n,rfl⟩ (size63 ra c) (empty_eq ra▸h _ V.toks)
 | lst xs =>
  revert h
  exact onIfB e (M:=fun k=>(∀ s',Stp Z.X Z.X.V s s'→Q k s')→_) fun c h=>Mine.Rep.onLst rp (M:=fun v=>wpAny Z.X.M Z.Ar (truthy v) Q E s) fun a n vs _ ha ra=>wpAny_truthy_list (lst_is ha) (size63 ra c) (empty_eq ra▸h _ V.toks)
end
end Mine
end
section
open PySem PySem.W PyProof.Rows
namespace Mine
open PySem.SeqAt
structure U1 (op:UnaryOp) where
 f:PV→Option PV
 ok:∀ {Z:Fr} {s:Shared} {p r:PV} {v:Value},Bs Z s→Z.Rep s.heap p v→f p=some r→Gets Z s r (unaryOp op v)
noncomputable def negI:U1 .USub:=⟨fun p=>p.int?.map fun a=>.int (-a),fun {Z s p r v} V rp e=>onMap e fun a e1 e2=>(scI.rd rp e1).elim fun t h=>by subst h e2; exact fun Q E h=>PySem.P.neg_int (V.int h)⟩
theorem bitNot_eq (x:Int):-x - 1=Builtin.bitNot x:=by unfold Builtin.bitNot; omega
noncomputable def invI:U1 .Invert:=⟨fun p=>p.int?.map fun a=>.int (-a - 1),fun {Z s p r v} V rp e=>onMap e fun a e1 e2=>(scI.rd rp e1).elim fun t h=>by subst h e2; exact fun Q E h=>invert_int (bitNot_eq a▸V.int (bitNot_eq a▸h))⟩
theorem sub_any {prog:Program} {w:World} {A:Around} {s:Shared} {o i:Value} {slice:Expr} {Q:Value→Shared→Prop} {E:Value→Shared→Prop} (h:wpAny (model prog w) A (getItem o i) Q E s):wpAny (model prog w) A (subscripted slice false o i) Q E s:=by
 cases slice with
 | Slice lo hi st p=>cases st <;> exact wpAny_operating h
 | _=>exact wpAny_operating h
theorem sub_rule {prog:Program} {w:World} {A:Around} {s:Shared} {env:Env} {value slice:Expr} {pos:Pos} {Q:Value→Shared→Prop} {E:Value→Shared→Prop}
  (h:wpAny (model prog w) A (eval value env) (fun o s₁=>wpAny (model prog w) A (eval slice env) (fun i s₂=>SubscriptOn (model prog w) A o i Q E s₂) E s₁) E s) :
  wpAny (model prog w) A (eval (.Subscript value slice pos) env) Q E s:=by
 rw [eval_Subscript]
 refine wpAny_bind (wpAny_mono h (fun o s₁ h₁=>wpAny_bind (wpAny_holding (wpAny_mono h₁ (fun i s₂ h₂=>wpAny_bind (wpAny_standAt ?_)) fun _ _ x=>x))) fun _ _ x=>x)
 obtain ⟨T,id,hl,hT,hg⟩:=h₂
 refine wpAny_bind ?_
 rw [getitemInPython_of_ne hT.not_modules]
 refine wpAny_bind (wpAny_specialOf hT hl ?_)
 exact wpAny_pure (wpAny_bind (sub_any (wpAny_mono hg (fun r s₃ h₃=>wpAny_bind (wpAny_letTemporaryGo (wpAny_pure h₃))) fun _ _ x=>x)))
theorem ag {vs:List Value} {j:Nat} {v:Value} (e:vs[j]?=some v):vs.toArray[j]?=some v:=by simpa using e
theorem neg_le {i:Int} {n:Nat} (h:0≤i+n):-(n:Int)≤i:=by omega
noncomputable def at? (n:Nat) (i:Int):Option Nat:=bif sm i then (bif decide (0≤i) then some i.toNat else bif decide (0≤i+n) then some (i+n).toNat else none) else none
theorem at_is {n j:Nat} {i:Int} {P:Prop} (e:at? n i=some j) (l:-2 ^ 63≤i∧i < 2 ^ 63→0≤i→j=i.toNat→P) (r:-2 ^ 63≤i∧i < 2 ^ 63→i < 0→0≤i+n→j=(i+n).toNat→P):P:=by
 unfold at? at e
 cases hs:sm i with
 | false=>rw [hs] at e; exact no e
 | true =>
  rw [hs] at e
  have h:=sm_lt hs
  have b:-2 ^ 63≤i∧i < 2 ^ 63:=⟨by omega,by omega⟩
  by_cases h0:0≤i
  ·rw [decide_eq_true h0] at e; exact l b h0 (Option.some.inj e).symm
  ·rw [decide_eq_false h0] at e
   by_cases h1:0≤i+n
   ·rw [decide_eq_true h1] at e; exact r b (Int.not_le.mp h0) h1 (Option.some.inj e).symm
   ·rw [decide_eq_false h1] at e; exact no e
section
variable {Z:Fr} {s:Shared} {p q r:PV} {v w:Value} {xs ys:List PV} {vs ws:List Value} {a:Addr} {n j:Nat} {i:Int} {t:Tok}
theorem item_lst (ha:s.heap.get? a=some (lstO vs n)) (ra:Z.RepL s.heap xs vs) (e:at? xs.length i=some j) (e2:xs[j]?=some r):Gets Z s r (getItem (.ref a) (.int i t)):=fun Q E h =>
 (Mine.RepL.get ra e2).elim fun v g=>at_is e
  (fun b h0 ej=>wpAny_getItem_list (lst_is ha) h0 b.2 (x:=v) (ej▸ag g.1) (h _ _ .refl g.2))
  (fun b h0 h1 ej=>wpAny_getItem_list_neg (lst_is ha) h0 (ra.size▸neg_le h1) b.1 (x:=v) (ra.size▸ej▸ag g.1) (h _ _ .refl g.2))
theorem item_tup (ha:s.heap.get? a=some (tupO vs n)) (ra:Z.RepL s.heap xs vs) (e:at? xs.length i=some j) (e2:xs[j]?=some r):Gets Z s r (getItem (.ref a) (.int i t)):=fun Q E h =>
 (Mine.RepL.get ra e2).elim fun v g=>by
  have hl:j < vs.length:=(List.getElem?_eq_some_iff.mp g.1).1
  have key:seqIndex? i vs.toArray.size=some j:=at_is e
   (fun b h0 ej=>by unfold seqIndex?; rw [if_neg (Int.not_lt.mpr h0),if_pos (by subst ej; simp; omega),ej])
   (fun b h0 h1 ej=>by rw [← ra.len] at ej h1; unfold seqIndex?; rw [if_pos h0]; subst ej; rw [if_pos (by simp; omega)]; rfl)
  exact at_is e (fun b h0 ej=>PyProof.Rows.getItem_tuple (t:=a) (items:=vs.toArray) (j:=j) (x:=v) ⟨_,ha,rfl,n,rfl⟩ b.1 b.2 key (ag g.1) (h _ _ .refl g.2))
   (fun b h0 h1 ej=>PyProof.Rows.getItem_tuple (t:=a) (items:=vs.toArray) (j:=j) (x:=v) ⟨_,ha,rfl,n,rfl⟩ b.1 b.2 key (ag g.1) (h _ _ .refl g.2))
theorem sub_lst (ha:s.heap.get? a=some (lstO vs n)) {Q:Value→Shared→Prop} {E:Value→Shared→Prop} (h:wpAny Z.X.M Z.Ar (getItem (.ref a) w) Q E s):SubscriptOn Z.X.M Z.Ar (.ref a) w Q E s:=⟨"list",_,slot_list_getitem.lookup,⟨_,ha,rfl⟩,h⟩
theorem sub_tup (ha:s.heap.get? a=some (tupO vs n)) {Q:Value→Shared→Prop} {E:Value→Shared→Prop} (h:wpAny Z.X.M Z.Ar (getItem (.ref a) w) Q E s):SubscriptOn Z.X.M Z.Ar (.ref a) w Q E s:=⟨"tuple",_,F.slot_tuple_getitem.lookup,⟨_,ha,rfl⟩,h⟩
def PartIs (o:Option Int) (v:Value):Prop:=Option.casesOn (motive:=fun _=>Prop) o (v=.none) fun i=>∃ t,v=.int i t
theorem PartIs.part:∀ {o:Option Int},PartIs o v→IsPart v o
 | none,e=>by obtain rfl:v=_:=e; exact .none
 | some _,⟨t,e⟩=>by subst e; exact .int _ _
theorem PartIs.bare:∀ {o:Option Int},PartIs o v→∃ l:Option (Int × Tok),v=partValue l∧l.map (·.1)=o
 | none,e=>⟨none,e,rfl⟩
 | some i,⟨t,e⟩=>⟨some (i,t),e,rfl⟩
noncomputable def cut {α:Type} (xs:List α) (n:Nat) (lo hi:Option Int):List α:=(xs.drop (lo.elim 0 (clipAt n))).take (hi.elim n (clipAt n) - lo.elim 0 (clipAt n))
noncomputable def cutS (x:Str) (lo hi:Option Int):Str:=⟨(cut x.cps.toList x.length lo hi).toArray⟩
variable {lo hi:Option Int} {sl:Addr} {vl vu:Value}
theorem slc_lst (V:Bs Z s) (ha:s.heap.get? a=some (lstO vs n)) (ra:Z.RepL s.heap xs vs) (hl:PartIs lo vl) (hu:PartIs hi vu) (hs:s.heap.IsSliceOf sl vl vu .none) (c:fits xs.length=true) :
  Gets Z s (.lst (cut xs xs.length lo hi)) (getItem (.ref a) (.ref sl)):=fun Q E h =>
 wpAny_getItem_list_slice (lst_is ha) hs hl.part hu.part .none (by simp) (by
  rw [slicePick_plain]
  exact V.lst (Mine.RepL.take _ (Mine.RepL.drop _ ra)) (by rw [ra.size]; exact h)) (by rw [ra.size]; exact le_line (fits_le c))
theorem rev_lst (V:Bs Z s) (ha:s.heap.get? a=some (lstO vs n)) (ra:Z.RepL s.heap xs vs) {vk:Value} (hk:PartIs (some (-1)) vk) (hs:s.heap.IsSliceOf sl .none .none vk) (c:fits xs.length=true) :
  Gets Z s (.lst xs.reverse) (getItem (.ref a) (.ref sl)):=fun Q E h =>
 wpAny_getItem_list_slice (lst_is ha) hs .none .none hk.part (by simp) (by
  rw [krv_pick]
  exact V.lst (Mine.RepL.rev ra) h) (by rw [ra.size]; exact le_line (fits_le c))
theorem strIdx_plain (lo hi:Option Int) (n:Nat):Builtin.Str.strSliceIndices lo hi 1 n=(List.range (hi.elim n (clipAt n) - lo.elim 0 (clipAt n))).map (lo.elim 0 (clipAt n)+·):=by
 rw [← sliceRange_one]
 unfold Builtin.Str.strSliceIndices
 cases lo <;> cases hi <;> simp [clipAt_cast]
theorem cut_len {α:Type} (xs:List α) (m:Nat):(cut xs m lo hi).length≤xs.length:=by
 unfold cut
 rw [List.length_take,List.length_drop]
 exact Nat.le_trans (Nat.min_le_right _ _) (Nat.sub_le _ _)
theorem clip_le (m:Nat):hi.elim m (clipAt m)≤m:=by
 cases hi with
 | none=>exact Nat.le_refl _
 | some i=>have:=clipAt_cast m i; simp only [Option.elim_some]; omega
theorem cut_all {α:Type} {xs:List α} (e:xs.length=hi.elim xs.length (clipAt xs.length) - lo.elim 0 (clipAt xs.length)):cut xs xs.length lo hi=xs:=by
 have:=clip_le (hi:=hi) xs.length
 unfold cut
 rw [← e]
 by_cases h:xs.length=0
 ·rw [List.eq_nil_of_length_eq_zero h]; simp
 ·rw [show lo.elim 0 (clipAt xs.length)=0 by omega,List.drop_zero,List.take_length]
theorem slc_str {x:Str} (V:Bs Z s) (hl:PartIs lo vl) (hu:PartIs hi vu) (hs:s.heap.IsSliceOf sl vl vu .none) (c:fits x.length=true):Gets Z s (.str (cutS x lo hi)) (getItem (.str x t) (.ref sl)):=fun Q E h=>by
 obtain ⟨l,rfl,el⟩:=hl.bare
 obtain ⟨u,rfl,eu⟩:=hu.bare
 have hx:x.cps.toList.length=x.length:=rfl
 refine wpAny_getItem_str_slice (l:=l) (u:=u) (st:=none) hs rfl ?_
 have hp:(Builtin.Str.strSliceIndices lo hi 1 x.length).filterMap (x.cps[·]?)=cut x.cps.toList x.length lo hi:=by rw [strIdx_plain,pick_run]; rfl
 unfold sliceMade slicePicked
 rw [el,eu]
 show Made.post (if _ then _ else Made.str ⟨((Builtin.Str.strSliceIndices lo hi 1 x.length).filterMap (x.cps[·]?)).toArray⟩) Q s
 rw [hp]
 split
 ·rename_i hc
  have hc:(Builtin.Str.strSliceIndices lo hi 1 x.length).length=x.length:=eq_of_beq (both hc).2
  rw [strIdx_plain,List.length_map,List.length_range] at hc
  have e:cutS x lo hi=x:=by
   have e:x.cps.toList.length=hi.elim x.length (clipAt x.length) - lo.elim 0 (clipAt x.length):=hx.trans hc.symm
   unfold cutS
   rw [← hx] at e ⊢
   rw [cut_all e]
  exact h _ _ .refl ⟨t,by rw [e]⟩
 ·exact ⟨Nat.le_trans (cut_len x.cps.toList x.length) (hx▸le_line (fits_le c)),V.str h⟩
end
end Mine
end
section
open PySem PySem.W PyProof.Rows
namespace Mine
def Fr.of (X:Cx) (Φ:Fns) (Ar:Around) (d:Nat) (B:Addr→Prop):Fr:=⟨X,Φ,Ar,d,{ scope:={ kind:=.function,names:=[],isGenerator:=false,isCoroutine:=false },locals:=0,globals:=0,cells:=[],qual:="" },[],B,fun _=>False,0,0,fun _=>.none⟩
theorem Bs.of {Z:Fr} {s:Shared} (V:Bs Z s):Bs (Fr.of Z.X Z.Φ Z.Ar Z.d Z.B) s:=⟨V.K,V.R,V.g,V.fresh,V.sub⟩
def Cx.VW (X:Cx) (W:Addr→Prop) (a:Addr):Prop:=X.V a∧¬ W a
structure Iter (Z:Fr) (K:Addr→Prop) (tp:Bool) (it:Value) (xs:List PV) (W₀:Addr→Prop) (S:(Addr→Prop)→Nat→Shared→Prop) (s₀ s₁:Shared):Prop where
 new:∀ a,W₀ a→s₀.heap.get? a=none
 mutd:∀ W i s,S W i s→∀ a,W a→Mut Z.X.N s.heap a
 start:S W₀ 0 s₁
 keep:∀ W i s s' (K':Addr→Prop),S W i s→Stp Z.X K' s s'→(∀ a,W a→K' a)→(∀ a o,K a→s₁.heap.get? a=some o→K' a)→S W i s'
 item:∀ W i p target,xs[i]?=some p→(tp=true→∃ es k ps,target=.Tuple es k ps)→∀ (B:Addr→Prop) s (Q:Option Value→Shared→Prop) (E:Value→Shared→Prop),(∀ a o,Z.B a→s₁.heap.get? a=some o→B a)→(∀ a,Z.X.N≤a→s.heap.get? a=none→B a)→S W i s→Z.X.G s.heap →
  (∀ W' v s',(∀ a,W a→W' a)→(∀ a,W' a→W a∨s.heap.get? a=none)→(∀ a,W' a→Mut Z.X.N s'.heap a)→St Z.X (Z.X.VW W) s₀.gens.size s s'→Rep s'.heap (fun a=>B a∧¬ W' a) p v →
   (∀ (Q:Unit→Shared→Prop) (E:Value→Shared→Prop),(∀ s'',St Z.X (Z.X.VW W') s₀.gens.size s' s''→S W' (i+1) s''→Q () s'')→wpAny Z.X.M Z.Ar (letOwnedTupleGo target it v) Q E s')→Q (some v) s')→wpAny Z.X.M Z.Ar (pyNext it) Q E s
 done:∀ W s (Q:Option Value→Shared→Prop) (E:Value→Shared→Prop),S W xs.length s→Z.X.G s.heap→(∀ s',St Z.X (Z.X.VW W) s₀.gens.size s s'→Q none s')→wpAny Z.X.M Z.Ar (pyNext it) Q E s
 self:∀ W s (Q:Value→Shared→Prop) (E:Value→Shared→Prop),S W 0 s→Q it s→wpAny Z.X.M Z.Ar (pyIter it) Q E s
def ItGoal (Z:Fr) (K:Addr→Prop) (tp:Bool) (s:Shared) (xs:List PV) (Q:Value→Shared→Prop):Prop :=
 ∀ it W S s₁,Stp Z.X Z.X.V s s₁→Iter Z K tp it xs W S s s₁→Q it s₁
def GetsIt (Z:Fr) (K:Addr→Prop) (s:Shared) (tp:Bool) (xs:List PV) (t:Sem Value):Prop :=
 ∀ (Q:Value→Shared→Prop) (E:Value→Shared→Prop),ItGoal Z K tp s xs Q→wpAny Z.X.M Z.Ar t (fun v s'=>wpAny Z.X.M Z.Ar (pyIter v) Q E s') E s
def PfFn (X:Cx) (F:Nat→List PV→Option PV) (Ar:Around) (d:Nat):Prop:=∀ (Φ:Fns) (f:Nat) (vs:List Value) (ps:List PV) (r:PV) (s:Shared) (B:Addr→Prop),F f ps=some r→Bs (Fr.of X Φ Ar d B) s→Mine.RepL s.heap B ps vs→Gets (Fr.of X Φ Ar d B) s r (call (X.fv f) vs)
structure HandOk (X:Cx) (h:Heap) (T:(Nat→List PV→Option PV)→List PV→Option PV) (F:Value):Prop where
 go:∀ (W:Nat→List PV→Option PV) (d:Nat),(∀ Ar,Room Ar d→PfFn X W Ar d)→∀ (Φ:Fns) (Ar:Around) (B:Addr→Prop) (s:Shared) (vs:List Value) (ps:List PV) (r:PV),T W ps=some r→Bs (Fr.of X Φ Ar (d+19) B) s→ExtOn X.V h s.heap→Mine.RepL s.heap B ps vs→Gets (Fr.of X Φ Ar (d+19) B) s r (call F vs)
 cw:∀ (Ar:Around) (pos:Pos) (trees:List (Bool × Sem Value)) (Q:Value→Shared→Prop) (E:Value→Shared→Prop) (s:Shared),trees.any (·.1)=false →
  wpAny X.M Ar (spliced trees) (fun vs s₁=>(X.G s₁.heap∧ExtOn X.V h s₁.heap)∧wpAny X.M Ar (call F vs) Q E s₁) E s→X.G s.heap→wpAny X.M Ar (callWith pos F [] trees []) Q E s
structure Pf (X:Cx) (Φ:Fns) (Ar:Around) (d:Nat):Prop where
 fn:∀ (f:Nat) (vs:List Value) (ps:List PV) (r:PV) (s:Shared) (B:Addr→Prop),Φ.fn f ps=some r→Bs (Fr.of X Φ Ar d B) s→Mine.RepL s.heap B ps vs→Gets (Fr.of X Φ Ar d B) s r (call (X.fv f) vs)
 me:∀ (f:Nat) (vs:List Value) (ps:List PV) (r:PV) (s:Shared) (B:Addr→Prop),Φ.me f ps=some r→Bs (Fr.of X Φ Ar d B) s→Mine.RepL s.heap B ps vs→Gets (Fr.of X Φ Ar d B) s r (call (X.mv f) vs)
 gen:∀ (f:Nat) (vs:List Value) (ps xs:List PV) (s:Shared) (B:Addr→Prop),Φ.gen f ps=some xs→Bs (Fr.of X Φ Ar d B) s→Mine.RepL s.heap B ps vs→∀ (K:Addr→Prop) (tp:Bool),(∀ a,B a→K a)→GetsIt (Fr.of X Φ Ar d B) K s tp xs (call (X.gv f) vs)
 x:∀ (f:Nat) (v:Value) (vs:List Value) (ps:List PV) (r:PV) (s:Shared) (B:Addr→Prop),X.xv f=some v→Φ.x f ps=some r→Bs (Fr.of X Φ Ar d B) s→Mine.RepL s.heap B ps vs→Gets (Fr.of X Φ Ar d B) s r (call v vs)
 hi:∀ (f:Nat) (T:Nat→(Nat→List PV→Option PV)→List PV→Option PV) (vs:List Value) (ps:List PV) (r:PV) (s:Shared) (B:Addr→Prop) (F₀ F₁:Value),Φ.hi f T ps=some r→Bs (Fr.of X Φ Ar d B) s→Mine.RepL s.heap B ps vs→HandOk X s.heap (T 0) F₀→HandOk X s.heap (T 1) F₁→(∃ a o,X.N≤a∧s.heap.get? a=some o)→Gets (Fr.of X Φ Ar d B) s r (call (X.fv f) (vs++[F₀,F₁]))
structure Ev (Z:Fr) (sc:SC) (σ:List Slot) (ws:Nat→Option Value) (s:Shared):Prop extends Dy Z σ ws s where
 P:Pf Z.X Z.Φ Z.Ar Z.d
 EO:EnvOk Z.env sc Z.ls
 nm:Z.X.nm=sc.nm
theorem Ev.step {Z:Fr} {sc:SC} {σ:List Slot} {ws:Nat→Option Value} {s s':Shared} (V:Ev Z sc σ ws s) (x:Stp Z.X Z.X.V s s'):Ev Z sc σ ws s':=⟨V.toDy.step x,V.P,V.EO,V.nm⟩
structure Pl (e:Expr):Prop where
 st:∀ env es,starEach (e::es) env=(false,eval e env)::starEach es env
 bh:∀ op,behindInMarks op e=false
 fd:∀ env x,foldedSetIterable e env x=pure x
structure SE (sc:SC) where
 e:Expr
 ev:Fns→List Slot→Option PV
 pl:Pl e
 ok:∀ {Z:Fr} {σ:List Slot} {ws:Nat→Option Value} {s:Shared} {p:PV},Ev Z sc σ ws s→ev Z.Φ σ=some p→Gets Z s p (eval e Z.env)
structure SW (sc:SC) where
 e:Expr
 ev:Fns→List Slot→Option (List PV)
 pl:Pl e
 ok:∀ {Z:Fr} {σ:List Slot} {ws:Nat→Option Value} {s:Shared} {xs:List PV},Ev Z sc σ ws s→ev Z.Φ σ=some xs→GetsW Z s xs (eval e Z.env)
structure SB (sc:SC) where
 e:Expr
 ev:Fns→List Slot→Option Bool
 ok:∀ {Z:Fr} {σ:List Slot} {ws:Nat→Option Value} {s:Shared} {b:Bool},Ev Z sc σ ws s→ev Z.Φ σ=some b→GetsB Z s b (isTrue e Z.env (eval e Z.env))
section
variable {sc:SC} {Z:Fr} {σ:List Slot} {ws:Nat→Option Value} {s s':Shared} {Q:Value→Shared→Prop} {E:Value→Shared→Prop}
theorem SE.go (x:SE sc) {p:PV} (V:Ev Z sc σ ws s) (e:x.ev Z.Φ σ=some p) (h:∀ v s',Stp Z.X Z.X.V s s'→Ev Z sc σ ws s'→Z.Rep s'.heap p v→Q v s'):wpAny Z.X.M Z.Ar (eval x.e Z.env) Q E s:=x.ok V e Q E fun v s' x r=>h v s' x (V.step x) r
theorem SW.go (x:SW sc) {xs:List PV} (V:Ev Z sc σ ws s) (e:x.ev Z.Φ σ=some xs) (h:∀ v vs s',Stp Z.X Z.X.V s s'→Ev Z sc σ ws s'→LstAt Z.X.V s'.heap v vs→Z.RepL s'.heap xs vs→Q v s'):wpAny Z.X.M Z.Ar (eval x.e Z.env) Q E s:=x.ok V e Q E fun v vs s' x r l=>h v vs s' x (V.step x) r l
theorem SB.go (x:SB sc) {b:Bool} {Q:Bool→Shared→Prop} (V:Ev Z sc σ ws s) (e:x.ev Z.Φ σ=some b) (h:∀ s',Stp Z.X Z.X.V s s'→Ev Z sc σ ws s'→Q b s'):wpAny Z.X.M Z.Ar (isTrue x.e Z.env (eval x.e Z.env)) Q E s:=x.ok V e Q E fun s' x=>h s' x (V.step x)
theorem LstAt.stp {v:Value} {vs:List Value} (r:LstAt Z.X.V s.heap v vs) (x:Stp Z.X Z.X.V s s'):LstAt Z.X.V s'.heap v vs:=r.move fun a o k e=>⟨k,x.off a o k e⟩
noncomputable def noDebug (x:Str):Bool:=!(x==("__debug__":Str))
noncomputable def isVar (sc:SC) (i:Nat) (x:Str):Bool:=(sc.Γ[i]?==some x&&noDebug x)&&(sc.N.lookup x==some .local || (sc.N.lookup x==some .cell || (sc.N.lookup x==some .free&&!(x==("__classdict__":Str)))))
noncomputable def isGlob (sc:SC) (x:Str):Bool:=sc.N.lookup x==some .globalImplicit&&noDebug x
theorem kind_is (EO:EnvOk Z.env sc Z.ls) {x:Str} {k:NameKind} (e:(sc.N.lookup x==some k)=true):Z.env.kindOf x=some k:=by
 rw [← eq_of_beq e,← EO.names]; rfl
theorem ldn (V:Ev Z sc σ ws s) {i:Nat} {x:Str} {v:Value} (hm:isVar sc i x=true) (hw:ws i=some v) (h:Q v s):wpAny Z.X.M Z.Ar (loadName Z.env x) Q E s:=by
 obtain ⟨h1,h2⟩:=both hm
 obtain ⟨h1,hd⟩:=both h1
 have h1:=eq_of_beq h1
 have hi:i < Z.ls.length:=V.EO.len▸(List.getElem?_eq_some_iff.mp h1).1
 have hl:Z.ls[i]?=some Z.ls[i]:=List.getElem?_eq_getElem hi
 have pl:=V.pl i _ hl
 rw [hw] at pl
 cases k1:sc.N.lookup x==some NameKind.local with
 | true =>
  have el:=V.EO.loc i x _ h1 hl (eq_of_beq k1)
  rw [el] at pl
  obtain ⟨m,hn,hm⟩:=pl
  exact wpAny_loadName_local V.EO.kind (kind_is V.EO k1) hn hm h
 | false =>
  cases k2:sc.N.lookup x==some NameKind.cell with
  | true =>
   obtain ⟨c,hc,el⟩:=V.EO.cel i x _ h1 hl (.inl (eq_of_beq k2))
   rw [el] at pl
   exact wpAny_loadName_cell V.EO.kind (kind_is V.EO k2) hc pl h
  | false =>
   rw [k1,k2] at h2
   have h2:=both (show (sc.N.lookup x==some NameKind.free&&!(x==("__classdict__":Str)))=true from h2)
   obtain ⟨c,hc,el⟩:=V.EO.cel i x _ h1 hl (.inr (eq_of_beq h2.1))
   rw [el] at pl
   exact wpAny_loadName_free V.EO.kind (kind_is V.EO h2.1) hc pl h (not_eq h2.2)
theorem ldv (V:Ev Z sc σ ws s) {i:Nat} {x:Str} {p:Pos} {v:Value} (hm:isVar sc i x=true) (hw:ws i=some v) (h:Q v s):wpAny Z.X.M Z.Ar (eval (.Name x p) Z.env) Q E s:=wpAny_Name (ldn V hm hw h) (not_eq (both (both hm).1).2)
theorem glob (V:Ev Z sc σ ws s) {x:Str} {p:Pos} (hm:isGlob sc x=true) (h:wpAny Z.X.M Z.Ar (loadGlobal Z.env x) Q E s):wpAny Z.X.M Z.Ar (eval (.Name x p) Z.env) Q E s :=
 Calls.Name_function_global V.EO.kind (kind_is V.EO (both hm).1) h (not_eq (both hm).2)
theorem global (V:Ev Z sc σ ws s) {x:Str} {p:Pos} {v:Value} (hm:isGlob sc x=true) (hv:Z.X.mg x=some v) (h:Q v s):wpAny Z.X.M Z.Ar (eval (.Name x p) Z.env) Q E s :=
 glob V hm (Calls.loadGlobal_global (V.EO.glob▸V.K.g _ V.g) hv h)
theorem blt_name (V:Ev Z sc σ ws s) {x:Str} {p:Pos} {v:Value} (hm:isGlob sc x=true) (hx:x∈(["len","abs","max","min","sum","int","sorted","tuple","list","divmod","range","enumerate","zip","reversed","str"]:List Str)) (hb:bootBuiltins x=some v) (h:Q v s):wpAny Z.X.M Z.Ar (eval (.Name x p) Z.env) Q E s :=
 glob V hm (Calls.loadGlobal_builtin (V.EO.glob▸V.K.g _ V.g) (V.K.blt x hx).1 (V.EO.blt▸V.K.b _ V.g) ((V.K.blt x hx).2.trans hb) h)
noncomputable def slotV (σ:List Slot) (i:Nat):Option PV:=σ[i]?.bind fun t=>Slot.casesOn (motive:=fun _=>Option PV) t none some (fun _=>none) (fun _=>none) fun _=>none
noncomputable def Cont.list (c:Cont):Option (List PV):=Cont.casesOn (motive:=fun _=>Option (List PV)) c some fun _ _=>none
noncomputable def Cont.dict (c:Cont):Option (List Int × List PV):=Cont.casesOn (motive:=fun _=>Option (List Int × List PV)) c (fun _=>none) fun ks xs=>some (ks,xs)
noncomputable def slotC (σ:List Slot) (i:Nat):Option Cont:=σ[i]?.bind fun t=>Slot.casesOn (motive:=fun _=>Option Cont) t none (fun _=>none) some (fun _=>none) fun _=>none
noncomputable def slotO (σ:List Slot) (i:Nat):Option (List PV):=(slotC σ i).bind Cont.list
noncomputable def slotD (σ:List Slot) (i:Nat):Option (List Int × List PV):=(slotC σ i).bind Cont.dict
noncomputable def slotF (σ:List Slot) (i:Nat):Option Nat:=σ[i]?.bind fun t=>Slot.casesOn (motive:=fun _=>Option Nat) t none (fun _=>none) (fun _=>none) (fun _=>none) some
theorem slotV_is {i:Nat} {p:PV} (e:slotV σ i=some p):σ[i]?=some (.val p):=onBind e fun t e1 e2=>by
 cases t <;> first | exact no e2 | (rw [e1,← Option.some.inj e2])
theorem slotC_is {i:Nat} {p:Cont} (e:slotC σ i=some p):σ[i]?=some (.own p):=onBind e fun t e1 e2=>by
 cases t <;> first | exact no e2 | (rw [e1,← Option.some.inj e2])
theorem slotF_is {i k:Nat} (e:slotF σ i=some k):σ[i]?=some (.fn k):=onBind e fun t e1 e2=>by
 cases t <;> first | exact no e2 | (rw [e1,← Option.some.inj e2])
theorem slotO_is {i:Nat} {p:List PV} (e:slotO σ i=some p):σ[i]?=some (.own (.l p)):=onBind e fun c e1 e2=>by
 cases c with
 | l xs=>rw [slotC_is e1,← Option.some.inj e2]
 | d ks xs=>exact no e2
theorem slotD_is {i:Nat} {p:List Int × List PV} (e:slotD σ i=some p):σ[i]?=some (.own (.d p.1 p.2)):=onBind e fun c e1 e2=>by
 cases c with
 | l xs=>exact no e2
 | d ks xs=>rw [slotC_is e1,← Option.some.inj e2]
noncomputable def SE.var (i:Nat) (x:Str) (p:Pos) (h:isVar sc i x=true):SE sc:=⟨.Name x p,fun _ σ=>slotV σ i,⟨fun _ _=>rfl,fun op=>by cases op <;> rfl,fun _ _=>rfl⟩,
 fun V e Q E q=>(V.ok i _ (slotV_is e)).elim fun v w=>ldv V h w.1 (q v _ .refl w.2)⟩
noncomputable def SW.own (i:Nat) (x:Str) (p:Pos) (h:isVar sc i x=true):SW sc:=⟨.Name x p,fun _ σ=>slotO σ i,⟨fun _ _=>rfl,fun op=>by cases op <;> rfl,fun _ _=>rfl⟩,
 fun V e Q E q=>(V.ok i _ (slotO_is e)).elim fun v w=>w.elim fun vs w=>ldv V h w.1 (q v vs _ .refl (w.2.1.move fun a o u e=>⟨.inl u,e⟩) w.2.2)⟩
noncomputable def SW.of (x:SE sc):SW sc:=⟨x.e,fun Φ σ=>(x.ev Φ σ).bind PV.lst?,x.pl,fun V e Q E q=>onBind e fun p e1 e2=>x.go V e1 fun v s' st V' r =>
 r.lst e2 (M:=fun v=>Q v s') fun a n vs b h l=>q (.ref a) vs s' st ⟨a,n,rfl,V'.sub a b,h⟩ l⟩
end
end Mine
end
section
open PySem PySem.W PyProof.Rows
namespace Mine
section
variable {sc:SC} {Z:Fr} {σ:List Slot} {ws:Nat→Option Value} {s s':Shared} {Q:Value→Shared→Prop} {E:Value→Shared→Prop}
def Fr.weak (Z:Fr):Fr:={ Z with B:=Z.X.V }
theorem Bs.weak (V:Bs Z s):Bs Z.weak s:=⟨V.K,V.R,V.g,fun _ h _=>.inl h,fun _ h=>h⟩
theorem Fr.Rep.weak {h:Heap} {p:PV} {v:Value} (r:Z.Rep h p v) (b:∀ a,Z.B a→Z.X.V a):Z.weak.Rep h p v:=Mine.Rep.move r fun a _ k e=>⟨b a k,e⟩
structure SX (sc:SC) where
 e:Expr
 ev:Fns→List Slot→Option PV
 pl:Pl e
 ok:∀ {Z:Fr} {σ:List Slot} {ws:Nat→Option Value} {s:Shared} {p:PV},Ev Z sc σ ws s→ev Z.Φ σ=some p→Gets Z.weak s p (eval e Z.env)
noncomputable def SE.x (x:SE sc):SX sc:=⟨x.e,x.ev,x.pl,fun {Z σ ws s p} V e Q E h=>x.go (Z:=Z) V e fun v s' st V' r=>h v s' st (r.weak V'.sub)⟩
noncomputable def SW.x (x:SW sc):SX sc:=⟨x.e,fun Φ σ=>(x.ev Φ σ).map .lst,x.pl,fun {Z σ ws s p} V e Q E h=>onMap e fun xs e1 e2=>x.go (Z:=Z) V e1 fun v vs s' st V' l r=>h v s' st (by
 obtain ⟨a,n,rfl,k,g⟩:=l
 subst e2
 exact Rep.mkLst k g (Mine.RepL.move (fun a _ k e=>⟨V'.sub a k,e⟩) r))⟩
theorem SX.go (x:SX sc) {p:PV} (V:Ev Z sc σ ws s) (e:x.ev Z.Φ σ=some p) (h:∀ v s',Stp Z.X Z.X.V s s'→Ev Z sc σ ws s'→Z.weak.Rep s'.heap p v→Q v s'):wpAny Z.X.M Z.Ar (eval x.e Z.env) Q E s:=x.ok V e Q E fun v s' x r=>h v s' x (V.step x) r
theorem Pl.const {c:Const} {k:Nat} {p:Pos}:Pl (.Constant c k p):=⟨fun _ _=>rfl,fun op=>by cases op <;> rfl,fun _ _=>rfl⟩
theorem Pl.name {x:Str} {p:Pos}:Pl (.Name x p):=⟨fun _ _=>rfl,fun op=>by cases op <;> rfl,fun _ _=>rfl⟩
noncomputable def SE.nn (k:Nat) (p:Pos):SE sc:=⟨.Constant .none k p,fun _ _=>some .none,.const,fun V e Q E q=>wpAny_Constant_none (q _ _ .refl (Option.some.inj e▸(rfl:Value.none=_)))⟩
noncomputable def SE.bool (b:Bool) (k:Nat) (p:Pos):SE sc:=⟨.Constant (.bool b) k p,fun _ _=>some (.bool b),.const,fun V e Q E q=>wpAny_Constant_bool (q _ _ .refl (Option.some.inj e▸(rfl:Value.bool b=_)))⟩
noncomputable def SE.int (i:Int) (k:Nat) (p:Pos):SE sc:=⟨.Constant (.int i) k p,fun _ _=>some (.int i),.const,fun V e Q E q=>wpAny_Constant_int (q _ _ V.toks (Option.some.inj e▸Rep.mkInt))⟩
noncomputable def SE.flt (i:UInt64) (k:Nat) (p:Pos):SE sc:=⟨.Constant (.float i) k p,fun _ _=>some (.flt i),.const,fun V e Q E q _ _ _=>q _ _ (V.toks (tk:=_+1)) (Option.some.inj e▸Rep.mkFlt)⟩
noncomputable def SE.str (i:Str) (k:Nat) (p:Pos):SE sc:=⟨.Constant (.str i) k p,fun _ _=>some (.str i),.const,fun V e Q E q=>wpAny_Constant_str (q _ _ V.toks (Option.some.inj e▸Rep.mkStr))⟩
noncomputable def SE.gflt (x:Str) (b:UInt64) (p:Pos) (h:isGlob sc x=true) (hx:sc.nm.flts.lookup x=some b):SE sc:=⟨.Name x p,fun _ _=>some (.flt b),.name,
 fun V e Q E q=>(V.K.flts x b (V.nm▸hx)).elim fun t ht=>global V h ht (q _ _ .refl (Option.some.inj e▸Rep.mkFlt))⟩
noncomputable def SE.gint (x:Str) (b:Int) (p:Pos) (h:isGlob sc x=true) (hx:sc.nm.inams.lookup x=some b):SE sc:=⟨.Name x p,fun _ _=>some (.int b),.name,
 fun V e Q E q=>(V.K.inams x b (V.nm▸hx)).elim fun t ht=>global V h ht (q _ _ .refl (Option.some.inj e▸Rep.mkInt))⟩
noncomputable def SE.bin {op:Operator} (b:B2 op) (l r:SE sc) (p:Pos):SE sc:=⟨.BinOp l.e op r.e p,fun Φ σ=>(l.ev Φ σ).bind fun a=>(r.ev Φ σ).bind (b.f a),⟨fun _ _=>rfl,fun op=>by cases op <;> rfl,fun _ _=>rfl⟩,
 fun V e Q E q=>onBind e fun a e1 e=>onBind e fun c e2 e=>wpAny_BinOp (l.go V e1 fun v s₁ x₁ V₁ r₁=>r.go V₁ e2 fun w s₂ x₂ V₂ r₂=>(b.ok V₂.toBs (r₁.stp V₁.sub x₂) r₂ e).go (x₁.trans x₂) q)⟩
noncomputable def SE.una {op:UnaryOp} (b:U1 op) (x:SE sc) (p:Pos):SE sc:=⟨.UnaryOp op x.e p,fun Φ σ=>(x.ev Φ σ).bind b.f,⟨fun _ _=>rfl,fun op=>by cases op <;> rfl,fun _ _=>rfl⟩,
 fun V e Q E q=>onBind e fun a e1 e=>wpAny_UnaryOp (x.go V e1 fun v s₁ x₁ V₁ r₁=>(b.ok V₁.toBs r₁ e).go x₁ q)⟩
noncomputable def SE.cmp {op:CmpOp} (b:C2 op) (l r:SX sc) (p:Pos):SE sc:=⟨.Compare l.e [op] [r.e] p,fun Φ σ=>(l.ev Φ σ).bind fun a=>(r.ev Φ σ).bind fun c=>(b.f a c).map .bool,⟨fun _ _=>rfl,fun op=>by cases op <;> rfl,fun _ _=>rfl⟩,
 fun {Z σ ws s p} V e Q E q=>onBind e fun a e1 e=>onBind e fun c e2 e=>onMap e fun k e e3=>wpAny_Compare1 (l.go V e1 fun v s₁ x₁ V₁ r₁=>r.go V₁ e2 fun w s₂ x₂ V₂ r₂=>b.ok (Z:=Z.weak) V₂.toBs.weak (r₁.stp (fun _ h=>h) x₂) r₂ e (q _ _ (x₁.trans x₂) (e3▸(rfl:Value.bool k=_)))) (r.pl.bh op)⟩
noncomputable def SB.cmp {op:CmpOp} (b:C2 op) (l r:SX sc) (p:Pos):SB sc:=⟨.Compare l.e [op] [r.e] p,fun Φ σ=>(l.ev Φ σ).bind fun a=>(r.ev Φ σ).bind (b.f a),
 fun {Z σ ws s p} V e Q E q=>onBind e fun a e1 e=>onBind e fun c e2 e=>wpAny_isTrue_Compare1 (l.go V e1 fun v s₁ x₁ V₁ r₁=>r.go V₁ e2 fun w s₂ x₂ V₂ r₂=>b.ok (Z:=Z.weak) V₂.toBs.weak (r₁.stp (fun _ h=>h) x₂) r₂ e (wpAny_truthy_bool (q _ (x₁.trans x₂)))) (r.pl.bh op)⟩
noncomputable def SB.of (x:SX sc) (h:∀ env,isTrue x.e env (eval x.e env)=(do let v ← eval x.e env; standAt x.e.pos; holding [v] (truthy v))):SB sc:=⟨x.e,fun Φ σ=>(x.ev Φ σ).bind truth,
 fun {Z σ ws s p} V e Q E q=>onBind e fun a e1 e=>wpAny_isTrue_value (x.go V e1 fun v s₁ x₁ V₁ r₁=>(truth_ok (Z:=Z.weak) V₁.toBs.weak r₁ e).go x₁ q) (h _)⟩
noncomputable def SB.neg (x:SB sc) (p:Pos):SB sc:=⟨.UnaryOp .Not x.e p,fun Φ σ=>(x.ev Φ σ).map fun b=>!b,fun V e Q E q=>onMap e fun b e1 e2=>by subst e2; exact isTrue_not (x.go V e1 fun s' st V'=>q s' st)⟩
noncomputable def SB.or (l r:SB sc) (p:Pos):SB sc:=⟨.BoolOp .Or [l.e,r.e] p,fun Φ σ=>(l.ev Φ σ).bind fun a=>bif a then some true else r.ev Φ σ,
 fun {Z σ ws s b} V e Q E q=>onBind e fun a e1 e=>isTrue_or (l.go V e1 fun s₁ x₁ V₁=>by
  cases a with
  | true=>obtain rfl:=Option.some.inj e; exact q s₁ x₁
  | false=>exact isTrue_or (r.go V₁ e fun s₂ x₂ _=>by
    cases b with
    | true=>exact q s₂ (x₁.trans x₂)
    | false=>exact isTrue_or_nil (q s₂ (x₁.trans x₂))))⟩
noncomputable def SE.ite (t:SB sc) (a b:SE sc) (p:Pos):SE sc:=⟨.IfExp t.e a.e b.e p,fun Φ σ=>(t.ev Φ σ).bind fun k=>bif k then a.ev Φ σ else b.ev Φ σ,⟨fun _ _=>rfl,fun op=>by cases op <;> rfl,fun _ _=>rfl⟩,
 fun V e Q E q=>onBind e fun k e1 e=>wpAny_IfExp (t.go V e1 fun s₁ x₁ V₁=>by
  cases k with
  | true=>exact (a.ok V₁ e).go x₁ q
  | false=>exact (b.ok V₁ e).go x₁ q)⟩
def evL (Φ:Fns) (σ:List Slot):List (SE sc)→Option (List PV)
 | []=>some []
 | x::r=>(x.ev Φ σ).bind fun p=>(evL Φ σ r).map (p::·)
def exprs (as:List (SE sc)):List Expr:=as.map SE.e
theorem evL_ok {pos:Pos} {Q:List Value→Shared→Prop}:∀ {as:List (SE sc)} {s:Shared} {ps:List PV},Ev Z sc σ ws s→evL Z.Φ σ as=some ps→(∀ vs s',Stp Z.X Z.X.V s s'→Ev Z sc σ ws s'→Z.RepL s'.heap ps vs→Q vs s')→wpAny Z.X.M Z.Ar (spliced (backTo pos (starEach (exprs as) Z.env))) Q E s
 | [],_,_,V,e,q=>wpAny_pure (q [] _ .refl V (Option.some.inj e▸RepL.nil))
 | a::as,_,_,V,e,q=>onBind e fun p e1 e=>onMap e fun ps e2 e=>wpAny_items_cons (a.go V e1 fun v s₁ x₁ V₁ r₁=>evL_ok V₁ e2 fun vs s₂ x₂ V₂ rl=>q _ s₂ (x₁.trans x₂) V₂ (e▸RepL.cons (r₁.stp V₁.sub x₂) rl)) (a.pl.st _ _)
theorem no_stars {env:Env} {pos:Pos}:∀ as:List (SE sc),(backTo pos (starEach (exprs as) env)).any (·.1)=false
 | []=>rfl
 | a::as=>by
  show (backTo pos (starEach (a.e::exprs as) env)).any (·.1)=false
  rw [a.pl.st]
  exact no_stars as
theorem args_call {M:Model} {Ar:Around} {env:Env} {f:Value} {pos:Pos} {Q:Args→Shared→Prop}:∀ {as:List (SE sc)},wpAny M Ar (spliced (backTo pos (starEach (exprs as) env))) (fun vs s'=>Q ⟨vs,[]⟩ s') E s→wpAny M Ar (evalArgs f true (backTo pos (starEach (exprs as) env)) []) Q E s
 | [],h=>h
 | a::as,h=>by
  have e:backTo pos (starEach (exprs (a::as)) env)=(false,eval a.e env)::backTo pos (starEach (exprs as) env):=congrArg (backTo pos) (a.pl.st env (exprs as))
  rw [e] at h ⊢
  exact Calls.evalArgs_plain h
noncomputable def SE.tup (as:List (SE sc)) (k:Nat) (p:Pos):SE sc:=⟨.Tuple (exprs as) k p,fun Φ σ=>(evL Φ σ as).bind fun ps=>bif fits ps.length then some (.tup ps) else .none,⟨fun _ _=>rfl,fun op=>by cases op <;> rfl,fun _ _=>rfl⟩,
 fun {Z σ ws s r} V e Q E q=>onBind e fun ps e1 e=>onIf (M:=fun r=>(∀ v s',Stp Z.X Z.X.V s s'→Z.Rep s'.heap r v→Q v s')→_) e (fun c q=>wpAny_Tuple (evL_ok V e1 fun vs s₁ x₁ V₁ rl=>⟨rl.len▸le_line (fits_le c),V₁.toBs.tup (tk:=s₁.toks) rl fun v s' x r=>q v s' (x₁.trans x) r⟩)) q⟩
noncomputable def SE.lst (as:List (SE sc)) (p:Pos):SE sc:=⟨.List (exprs as) p,fun Φ σ=>(evL Φ σ as).bind fun ps=>bif fits ps.length then some (.lst ps) else .none,⟨fun _ _=>rfl,fun op=>by cases op <;> rfl,fun _ _=>rfl⟩,
 fun {Z σ ws s r} V e Q E q=>onBind e fun ps e1 e=>onIf (M:=fun r=>(∀ v s',Stp Z.X Z.X.V s s'→Z.Rep s'.heap r v→Q v s')→_) e (fun c q=>wpAny_List (evL_ok V e1 fun vs s₁ x₁ V₁ rl=>⟨rl.len▸le_line (fits_le c),V₁.toBs.lst (tk:=s₁.toks) rl fun v s' x r=>q v s' (x₁.trans x) r⟩)) q⟩
noncomputable def SE.idx (x:SW sc) (i:SE sc) (p:Pos):SE sc:=⟨.Subscript x.e i.e p,fun Φ σ=>(x.ev Φ σ).bind fun xs=>(i.ev Φ σ).bind fun j=>j.int?.bind fun j=>(at? xs.length j).bind (xs[·]?),⟨fun _ _=>rfl,fun op=>by cases op <;> rfl,fun _ _=>rfl⟩,
 fun V e Q E q=>onBind e fun xs e1 e=>onBind e fun j e2 e=>onBind e fun j' e3 e=>onBind e fun k e4 e5=>sub_rule (x.go V e1 fun v vs s₁ x₁ V₁ l r=>i.go V₁ e2 fun w s₂ x₂ V₂ r₂=>by
  obtain ⟨a,n,rfl,_,g⟩:=l.stp x₂
  obtain ⟨t,rfl⟩:=scI.rd r₂ e3
  exact sub_lst g ((item_lst g (r.stp V₁.sub x₂) e4 e5).go (x₁.trans x₂) q))⟩
noncomputable def SE.idxT (x:SE sc) (i:SE sc) (p:Pos):SE sc:=⟨.Subscript x.e i.e p,fun Φ σ=>(x.ev Φ σ).bind fun xs=>xs.tup?.bind fun xs=>(i.ev Φ σ).bind fun j=>j.int?.bind fun j=>(at? xs.length j).bind (xs[·]?),⟨fun _ _=>rfl,fun op=>by cases op <;> rfl,fun _ _=>rfl⟩,
 fun {Z σ ws s p} V e Q E q=>onBind e fun xs e1 e=>onBind e fun xs' e0 e=>onBind e fun j e2 e=>onBind e fun j' e3 e=>onBind e fun k e4 e5=>sub_rule (x.go V e1 fun v s₁ x₁ V₁ r=>i.go V₁ e2 fun w s₂ x₂ V₂ r₂=>by
  obtain ⟨t,rfl⟩:=scI.rd r₂ e3
  exact (r.stp V₁.sub x₂).tup e0 (M:=fun v=>SubscriptOn Z.X.M Z.Ar v (.int j' t) Q E s₂) fun a n vs _ g l=>sub_tup g ((item_tup g l e4 e5).go (x₁.trans x₂) q))⟩
end
end Mine
end
section
open PySem PySem.W PyProof.Rows
namespace Mine
section
variable {sc:SC} {Z:Fr} {σ:List Slot} {ws:Nat→Option Value} {s s':Shared} {Q:Value→Shared→Prop} {E:Value→Shared→Prop}
noncomputable def evO (Φ:Fns) (σ:List Slot) (o:Option (SE sc)):Option (Option Int):=Option.casesOn (motive:=fun _=>Option (Option Int)) o (some none) fun x=>(x.ev Φ σ).bind fun p=>p.int?.map some
def part (o:Option (SE sc)):Option Expr:=o.map SE.e
theorem part_ok {o:Option (SE sc)} {i:Option Int} (V:Ev Z sc σ ws s) (e:evO Z.Φ σ o=some i) (h:∀ v s',Stp Z.X Z.X.V s s'→Ev Z sc σ ws s'→PartIs i v→Q v s'):wpAny Z.X.M Z.Ar (evalPart (part o) Z.env) Q E s:=by
 cases o with
 | none=>exact wpAny_pure (h _ s .refl V (Option.some.inj e▸rfl))
 | some x =>
  refine onBind e fun p e1 e=>onMap e fun j e2 e=>?_
  subst e
  show wpAny _ _ (evalPart (some x.e) Z.env) Q E s
  rw [evalPart_some]
  exact x.go V e1 fun v s₁ x₁ V₁ r=>h v s₁ x₁ V₁ (scI.rd r e2)
theorem Pl.sub {a b:Expr} {p:Pos}:Pl (.Subscript a b p):=⟨fun _ _=>rfl,fun op=>by cases op <;> rfl,fun _ _=>rfl⟩
theorem slc_go {lo hi:Option (SE sc)} {p:Pos} {i j:Option Int} (V:Ev Z sc σ ws s) (e1:evO Z.Φ σ lo=some i) (e2:evO Z.Φ σ hi=some j)
  (h:∀ (s₁:Shared) (sl:Addr) (vl vu:Value),Stp Z.X Z.X.V s s₁→Ev Z sc σ ws s₁→PartIs i vl→PartIs j vu→s₁.heap.IsSliceOf sl vl vu .none→Q (.ref sl) s₁):wpAny Z.X.M Z.Ar (eval (.Slice (part lo) (part hi) none p) Z.env) Q E s :=
 wpAny_Slice (part_ok V e1 fun vl s₁ x₁ V₁ r₁=>part_ok V₁ e2 fun vu s₂ x₂ V₂ r₂=>by
  rw [evalPart_none]
  exact wpAny_pure (h _ _ vl vu (x₁.trans (x₂.trans (V₂.toBs.push (tk:=s₂.toks)))) (V₂.step (V₂.toBs.push (tk:=s₂.toks))) r₁ r₂ ⟨_,Heap.get?_push_size _ rfl,rfl,rfl⟩))
noncomputable def SE.slc (x:SW sc) (lo hi:Option (SE sc)) (p1 p:Pos):SE sc:=⟨.Subscript x.e (.Slice (part lo) (part hi) none p1) p,fun Φ σ=>(x.ev Φ σ).bind fun xs=>(evO Φ σ lo).bind fun i=>(evO Φ σ hi).bind fun j=>bif fits xs.length then some (.lst (cut xs xs.length i j)) else none,.sub,
 fun {Z σ ws s r} V e Q E q=>onBind e fun xs e1 e=>onBind e fun i e2 e=>onBind e fun j e3 e=>onIf (M:=fun r=>(∀ v s',Stp Z.X Z.X.V s s'→Z.Rep s'.heap r v→Q v s')→_) e (fun c q=>sub_rule (x.go V e1 fun v vs s₁ x₁ V₁ l r=>slc_go V₁ e2 e3 fun s₂ sl vl vu x₂ V₂ r1 r2 hs=>by
  obtain ⟨a,n,rfl,_,g⟩:=l.stp x₂
  exact sub_lst g ((slc_lst V₂.toBs g (r.stp V₁.sub x₂) r1 r2 hs c).go (x₁.trans x₂) q))) q⟩
noncomputable def SE.slcS (x:SE sc) (lo hi:Option (SE sc)) (p1 p:Pos):SE sc:=⟨.Subscript x.e (.Slice (part lo) (part hi) none p1) p,fun Φ σ=>(x.ev Φ σ).bind fun xs=>xs.str?.bind fun xs=>(evO Φ σ lo).bind fun i=>(evO Φ σ hi).bind fun j=>bif fits xs.length then some (.str (cutS xs i j)) else none,.sub,
 fun {Z σ ws s r} V e Q E q=>onBind e fun xs e1 e=>onBind e fun xs' e0 e=>onBind e fun i e2 e=>onBind e fun j e3 e=>onIf (M:=fun r=>(∀ v s',Stp Z.X Z.X.V s s'→Z.Rep s'.heap r v→Q v s')→_) e (fun c q=>sub_rule (x.go V e1 fun v s₁ x₁ V₁ r=>slc_go V₁ e2 e3 fun s₂ sl vl vu x₂ V₂ r1 r2 hs=>by
  obtain ⟨t,rfl⟩:=scS.rd r e0
  exact ⟨"str",_,F.slot_str_getitem.lookup,typeIs_str _ _ _,(slc_str V₂.toBs r1 r2 hs c).go (x₁.trans x₂) q⟩)) q⟩
noncomputable def SE.rev (x:SW sc) (kk:Nat) (p1 p2 p3 p:Pos):SE sc:=⟨.Subscript x.e (.Slice none none (some (.UnaryOp .USub (.Constant (.int 1) kk p1) p2)) p3) p,fun Φ σ=>(x.ev Φ σ).bind fun xs=>bif fits xs.length then some (.lst xs.reverse) else none,.sub,
 fun {Z σ ws s r} V e Q E q=>onBind e fun xs e1 e=>onIf (M:=fun r=>(∀ v s',Stp Z.X Z.X.V s s'→Z.Rep s'.heap r v→Q v s')→_) e (fun c q=>sub_rule (x.go V e1 fun v vs s₁ x₁ V₁ l r=>wpAny_Slice (by
  rw [evalPart_none,evalPart_some]
  refine wpAny_pure (wpAny_pure (wpAny_UnaryOp (wpAny_Constant_int (PySem.P.neg_int ?_))))
  have x₂:=V₁.toBs.push (tk:=s₁.toks+1+1) (o:={ cls:=.type "slice",data:=.fields #[.none,.none,.int (-1) (s₁.toks+1)] }) (K:=Z.X.V) (g:=s₁.gens.size)
  obtain ⟨a,n,rfl,_,g⟩:=l.stp x₂
  exact sub_lst g ((rev_lst (sl:=s₁.heap.objs.size) (V₁.step x₂).toBs g (r.stp V₁.sub x₂) ⟨s₁.toks+1,rfl⟩ ⟨_,Heap.get?_push_size _ rfl,rfl,rfl⟩ c).go (x₁.trans x₂) q)))) q⟩
theorem base_plain {o:Expr} {x:Str} {env:Env} {t:Sem Value} (h:∀ x env t,attributeBase o x env t=t):attributeBase o x env t=t:=h x env t
noncomputable def SE.attr (i:Nat) (x:Str) (o:SE sc) (p:Pos) (hx:fieldNames[i]?=some x) (hs:∀ x env t,attributeBase o.e x env t=t):SE sc :=
 ⟨.Attribute o.e x p,fun Φ σ=>(o.ev Φ σ).bind fun v=>v.obj?.bind fun c=>bif Nat.beq c.1 sc.nm.cls then c.2[i]? else none,⟨fun _ _=>rfl,fun op=>by cases op <;> rfl,fun _ _=>rfl⟩,
 fun {Z σ ws s r} V e Q E q=>onBind e fun v e1 e=>onBind e fun c e2 e=>by
  cases hc:Nat.beq c.1 sc.nm.cls with
  | false=>rw [hc] at e; exact no e
  | true =>
   rw [hc] at e
   rw [arm_eval_Attribute,hs]
   refine wpAny_bind (o.go V e1 fun v s₁ x₁ V₁ r₁=>wpAny_bind (wpAny_standAt (wpAny_bind (wpAny_holding ?_))))
   rw [PV.is_obj e2,show c.1=Z.X.nm.cls from (Nat.eq_of_beq_eq_true hc).trans (congrArg Nms.cls V.nm.symm)] at r₁
   exact V₁.K.attr i x hx Z.Ar Z.B s₁ v c.2 _ _ _ V₁.g r₁ e fun v' tk r₂=>wpAny_bind (wpAny_letTemporaryGo (wpAny_pure (q _ _ (x₁.trans V₁.toBs.toks) r₂)))⟩
noncomputable def SE.cat (f:Nat) (w x y:Str) (p1 p:Pos) (hf:sc.nm.fns[f]?=some w) (hx:(f,x,y)∈sc.nm.cats) (hg:isGlob sc w=true):SE sc :=
 ⟨.Attribute (.Name w p1) x p,fun _ _=>some (.str y),⟨fun _ _=>rfl,fun op=>by cases op <;> rfl,fun _ _=>rfl⟩,
 fun {Z σ ws s r} V e Q E q=>by
  rw [arm_eval_Attribute,show attributeBase (.Name w p1) x Z.env (eval (.Name w p1) Z.env)=eval (.Name w p1) Z.env from rfl]
  exact wpAny_bind (global V hg (V.K.fns f w (V.nm▸hf)) (wpAny_bind (wpAny_standAt (wpAny_bind (wpAny_holding (V.K.cat f w x y (V.nm▸hf) (V.nm▸hx) Z.Ar _ _ _ V.g fun t=>wpAny_bind (wpAny_letTemporaryGo (wpAny_pure (q _ _ V.toBs.toks (Option.some.inj e▸Rep.mkStr))))))))))⟩
noncomputable def SE.call (f:Nat) (x:Str) (as:List (SE sc)) (p1 p:Pos) (hx:sc.nm.fns[f]?=some x) (hg:isGlob sc x=true):SE sc:=⟨.Call (.Name x p1) (exprs as) [] p,fun Φ σ=>(evL Φ σ as).bind (Φ.fn f),⟨fun _ _=>rfl,fun op=>by cases op <;> rfl,fun _ _=>rfl⟩,
 fun V e Q E q=>onBind e fun ps e1 e=>wpAny_Call_NameR (global V hg (V.K.fns f x (V.nm▸hx)) (V.K.callw f x (V.nm▸hx) _ p [] _ Q E _ (no_stars as) (evL_ok V e1 fun vs s₁ x₁ V₁ rl=>⟨V₁.g,V₁.P.fn f vs ps _ s₁ _ e V₁.toBs.of rl Q E fun v s₂ x₂ r=>q v s₂ (x₁.trans x₂) r⟩) V.g))⟩
theorem few_args {as:List (SE sc)} {env:Env} {pos:Pos} (hz:Nat.blt as.length 30=true):methodCallForm ((exprs as).length+([]:List Keyword).length) (backTo pos (starEach (exprs as) env)) []=true:=by
 have:((backTo pos (starEach (exprs as) env)).all fun x=>!x.1)=true:=by
  rw [List.all_eq_not_any_not]
  simpa using no_stars (env:=env) (pos:=pos) as
 unfold methodCallForm
 have hl:(exprs as).length=as.length:=List.length_map ..
 have:=Nat.blt_eq.mp hz
 simp only [List.length_nil,Nat.add_zero,hl]
 simp [this, *]
noncomputable def SE.umeth (f:Nat) (x:Str) (o:SE sc) (as:List (SE sc)) (p1 p:Pos) (hx:sc.nm.ms[f]?=some x) (hs:∀ x env t,attributeBase o.e x env t=t) (hl:(p1.endLine==p.line)=true) (hz:Nat.blt as.length 30=true):SE sc :=
 ⟨.Call (.Attribute o.e x p1) (exprs as) [] p,fun Φ σ=>(o.ev Φ σ).bind fun v=>v.obj?.bind fun c=>bif Nat.beq c.1 sc.nm.cls then (evL Φ σ as).bind fun ps=>Φ.me f (v::ps) else none,⟨fun _ _=>rfl,fun op=>by cases op <;> rfl,fun _ _=>rfl⟩,
 fun {Z σ ws s r} V e Q E q=>onBind e fun v e1 e=>onBind e fun c e2 e=>by
  cases hc:Nat.beq c.1 sc.nm.cls with
  | false=>rw [hc] at e; exact no e
  | true =>
   rw [hc] at e
   refine onBind e fun ps e3 e=>?_
   rw [arm_eval_Call,hs]
   refine wpAny_bind (o.go V e1 fun v s₁ x₁ V₁ r₁=>wpAny_bind (wpAny_standAt ?_))
   have r₁':=r₁
   rw [PV.is_obj e2,show c.1=Z.X.nm.cls from (Nat.eq_of_beq_eq_true hc).trans (congrArg Nms.cls V.nm.symm)] at r₁'
   exact V₁.K.umeth f x (V.nm▸hx) Z.Ar Z.B s₁ o.e p1 p Z.env v c.2 _ _ Q E V₁.g r₁' (few_args hz) hl (no_stars as) (evL_ok V₁ e3 fun vs s₂ x₂ V₂ rl =>
    ⟨V₂.g,V₂.P.me f (v::vs) _ _ s₂ _ e V₂.toBs.of (RepL.cons (r₁.stp V₁.sub x₂) rl) Q E fun v s₃ x₃ r=>q v s₃ ((x₁.trans x₂).trans x₃) r⟩)⟩
end
end Mine
end
section
open PySem PySem.W PyProof.Rows
namespace Mine
open PySem.SeqAt PySem.Builtin.Str
abbrev bltNames:List Str:=["len","abs","max","min","sum","int","sorted","tuple","list","divmod","range","enumerate","zip","reversed","str"]
structure BN where
 x:Str
 v:Value
 hx:x∈bltNames
 hb:bootBuiltins x=some v
 cw:∀ {M:Model} {Ar:Around} {E:Value→Shared→Prop} {s:Shared} {pos:Pos} {ts:List (Bool × Sem Value)} {Q:Value→Shared→Prop},ts.any (·.1)=false→wpAny M Ar (evalArgs v true ts []) (fun a s₁=>wpAny M Ar (call v ([]++a.pos) a.kw) Q E s₁) E s→wpAny M Ar (callWith pos v [] ts []) Q E s
 f:List PV→Option PV
 ok:∀ {Z:Fr} {s:Shared} {ps:List PV} {vs:List Value} {r:PV},Bs Z s→Z.RepL s.heap ps vs→f ps=some r→Gets Z s r (call v vs)
noncomputable def scal (p:PV):Bool:=PV.casesOn (motive_1:=fun _=>Bool) p true (fun _=>true) (fun _=>true) (fun _=>true) (fun _=>true) (fun _=>false) (fun _=>false) (fun _ _=>false) fun _ _=>false
section
variable {sc:SC} {Z:Fr} {σ:List Slot} {ws:Nat→Option Value} {s s':Shared} {Q:Value→Shared→Prop} {E:Value→Shared→Prop} {α β:Type} {p q r:PV} {v w:Value} {xs ps:List PV} {vs:List Value}
theorem scal_rep {h:Heap} {B B':Addr→Prop} (e:scal p=true) (x:Mine.Rep h B p v):Mine.Rep h B' p v:=by cases p <;> first | exact x | exact nomatch e
noncomputable def SE.bi (b:BN) (as:List (SE sc)) (p1 p:Pos) (hg:isGlob sc b.x=true):SE sc:=⟨.Call (.Name b.x p1) (exprs as) [] p,fun Φ σ=>(evL Φ σ as).bind b.f,⟨fun _ _=>rfl,fun op=>by cases op <;> rfl,fun _ _=>rfl⟩,
 fun V e Q E q=>onBind e fun ps e1 e=>wpAny_Call_NameR (blt_name V hg b.hx b.hb (b.cw (no_stars as) (args_call (evL_ok V e1 fun vs s₁ x₁ V₁ rl=>(b.ok V₁.toBs rl e).go x₁ q))))⟩
noncomputable def SE.biX (b:BN) (a:SX sc) (p1 p:Pos) (hg:isGlob sc b.x=true) (hs:∀ ps r,b.f ps=some r→scal r=true):SE sc:=⟨.Call (.Name b.x p1) [a.e] [] p,fun Φ σ=>(a.ev Φ σ).bind fun p=>b.f [p],⟨fun _ _=>rfl,fun op=>by cases op <;> rfl,fun _ _=>rfl⟩,
 fun {Z σ ws s r} V e Q E q=>onBind e fun p1 e1 e=>wpAny_Call_NameR (blt_name V hg b.hx b.hb (by
  rw [show starEach [a.e] Z.env=[(false,eval a.e Z.env)] from a.pl.st _ _]
  exact b.cw rfl (Calls.evalArgs_plain (Calls.spliced_cons (a.go V e1 fun v s₁ x₁ V₁ r₁=>Calls.spliced_nil ((b.ok (Z:=Z.weak) V₁.toBs.weak (RepL.cons r₁ RepL.nil) e).go x₁ fun v s' st rr=>q v s' st (scal_rep (hs _ _ e) rr)))))))⟩
noncomputable def arg1 (g:PV→Option PV) (ps:List PV):Option PV:=List.casesOn ps none fun p r=>List.casesOn r (g p) fun _ _=>none
noncomputable def arg2 (g:PV→PV→Option PV) (ps:List PV):Option PV:=List.casesOn ps none fun p r=>List.casesOn r none fun q r=>List.casesOn r (g p q) fun _ _=>none
theorem on1 {g:PV→Option PV} {M:List Value→Prop} (rl:Z.RepL s.heap ps vs) (e:arg1 g ps=some r) (k:∀ p v,g p=some r→Z.Rep s.heap p v→M [v]):M vs:=by
 cases ps with
 | nil=>exact no e
 | cons p ps=>cases ps with
  | cons q ps=>exact no e
  | nil=>obtain ⟨v,_,rfl,a,rfl⟩:=rl; exact k p v e a
theorem on2 {g:PV→PV→Option PV} {M:List Value→Prop} (rl:Z.RepL s.heap ps vs) (e:arg2 g ps=some r) (k:∀ p q v w,g p q=some r→Z.Rep s.heap p v→Z.Rep s.heap q w→M [v,w]):M vs:=by
 cases ps with
 | nil=>exact no e
 | cons p ps=>cases ps with
  | nil=>exact no e
  | cons q ps=>cases ps with
   | cons q ps=>exact no e
   | nil=>obtain ⟨v,_,rfl,a,w,_,rfl,b,rfl⟩:=rl; exact k p q v w e a b
theorem Bs.at (V:Bs Z s) {h':Heap} {tk:Nat} (x:Ext s.heap h') (r:Z.Rep h' p v) (h:∀ v s',Stp Z.X Z.X.V s s'→Z.Rep s'.heap p v→Q v s'):Q v { s with heap:=h',toks:=tk }:=h _ _ (V.ext x) r
noncomputable def lenOf (p:PV):Option Nat:=PV.casesOn (motive_1:=fun _=>Option Nat) p none (fun _=>none) (fun _=>none) (fun _=>none) (fun x=>some x.length) (fun xs=>some xs.length) (fun xs=>some xs.length) (fun _ _=>none) fun _ _=>none
theorem fits63 {n:Nat} (h:fits n=true):(n:Int) < 2 ^ 63:=Int.lt_of_le_of_lt (Int.ofNat_le.mpr (fits_le h)) (by decide)
theorem fits63' {n:Nat} (h:fits n=true):¬ (n:Int) ≥ 2 ^ 63:=Int.not_le.mpr (fits63 h)
theorem len_ok (V:Bs Z s) (rp:Z.Rep s.heap p v) {n:Nat} (e:lenOf p=some n) (c:fits n=true):Gets Z s (.int n) (call (.builtin "len") [v]):=fun Q E h=>by
 cases p with
 | str x=>obtain ⟨t,rfl⟩:=rp; obtain rfl:=Option.some.inj e; exact PySem.P.len_str (fits63' c) (V.int h)
 | tup xs =>
  obtain rfl:=Option.some.inj e
  exact Mine.Rep.onTup rp (M:=fun v=>wpAny Z.X.M Z.Ar (call (.builtin "len") [v]) Q E s) fun a n vs _ g r=>PySem.P.len_tuple (items:=vs.toArray) (n:=n) g (Fr.RepL.size r▸fits63' c) (Fr.RepL.size r▸V.int h)
 | lst xs =>
  obtain rfl:=Option.some.inj e
  exact Mine.Rep.onLst rp (M:=fun v=>wpAny Z.X.M Z.Ar (call (.builtin "len") [v]) Q E s) fun a n vs _ g r=>PySem.Calls.call_len_list (lst_is g) (Fr.RepL.size r▸fits63 c) (Fr.RepL.size r▸V.int h)
 | _=>exact no e
noncomputable def lenB:BN:=⟨"len",.builtin "len",by decide +kernel,by decide +kernel,Calls.callWith_builtin,arg1 fun p=>(lenOf p).bind fun n=>bif fits n then some (.int n) else none,
 fun {Z s ps vs r} V rl e=>on1 rl e (M:=fun vs=>Gets Z s r (call (.builtin "len") vs)) fun p v e rp=>onBind e fun n e1 e=>onIf e (M:=fun r=>Gets Z s r (call (.builtin "len") [v])) fun c=>len_ok V rp e1 c⟩
theorem on1s {g:PV→Option PV} (e:arg1 g ps=some r) (k:∀ p,g p=some r→scal r=true):scal r=true:=by
 cases ps with
 | nil=>exact no e
 | cons p ps=>cases ps with
  | cons q ps=>exact no e
  | nil=>exact k p e
theorem lenB_sc (ps:List PV) (r:PV) (e:lenB.f ps=some r):scal r=true:=on1s e fun p e=>onBind e fun n _ e=>onIf e (M:=fun r=>scal r=true) fun _=>rfl
noncomputable def truncF (x:UInt64):Option Int:=Float64.Num.casesOn (motive:=fun _=>Option Int) (Float64.decode x) none (fun _=>none) fun a m e=>some (Float64.truncOf a m e)
theorem truncF_is {x:UInt64} {i:Int} (e:truncF x=some i) {P:Prop} (k:∀ a m e,Float64.decode x=.fin a m e→i=Float64.truncOf a m e→P):P:=by
 unfold truncF at e
 cases d:Float64.decode x with
 | fin a m e'=>rw [d] at e; exact k a m e' d (Option.some.inj e).symm
 | _=>rw [d] at e; exact no e
noncomputable def intF:BN:=⟨"int",.type "int",by decide +kernel,by decide +kernel,PySem.callWith_type,arg1 fun p=>p.flt?.bind fun a=>(truncF a).map .int,
 fun {Z s ps vs r} V rl e=>on1 rl e (M:=fun vs=>Gets Z s r (call (.type "int") vs)) fun p v e rp=>onBind e fun a e1 e=>onMap e fun i e2 e=>by
  obtain ⟨t,rfl⟩:=scF.rd rp e1
  exact truncF_is e2 fun a m x hd hi=>by subst e hi; exact fun Q E h=>call_int_float hd (V.int h)⟩
noncomputable def scs (A:Sc α) (ps:List PV):Option (List α):=List.rec (some []) (fun p _ ih=>(A.d p).bind fun a=>ih.map (a::·)) ps
def ScAre (A:Sc α):List α→List Value→Prop
 | [],vs=>vs=[]
 | a::as,vs=>∃ t r,vs=A.ve a t::r∧ScAre A as r
theorem scs_is (A:Sc α) {h:Heap} {B:Addr→Prop}:∀ {ps vs as},Mine.RepL h B ps vs→scs A ps=some as→ScAre A as vs
 | [],_,_,rl,e=>Option.some.inj e▸rl
 | p::ps,_,as,rl,e=>onBind e fun a e1 e=>onMap e fun l e2 e=>by
  obtain ⟨v,vs,rfl,r1,r2⟩:=rl
  obtain ⟨t,rfl⟩:=A.rd r1 e1
  subst e
  exact ⟨t,vs,rfl,scs_is A r2 e2⟩
theorem ScAre.get {A:Sc α}:∀ {as vs} {i:Nat} {v:Value},ScAre A as vs→vs[i]?=some v→∃ a t,as[i]?=some a∧v=A.ve a t
 | [],_,_,_,r,e=>by obtain rfl:_=[]:=r; exact no e
 | a::_,_,0,_,r,e=>by obtain ⟨t,r,rfl,_⟩:=r; exact ⟨a,t,rfl,(Option.some.inj e).symm⟩
 | _::_,_,i+1,_,r,e=>by obtain ⟨t,r,rfl,h⟩:=r; exact ScAre.get (i:=i) h e
theorem ScAre.len {A:Sc α}:∀ {as vs},ScAre A as vs→vs.length=as.length
 | [],_,r=>by obtain rfl:_=[]:=r; rfl
 | _::_,_,r=>by obtain ⟨t,r,rfl,h⟩:=r; exact congrArg (·+1) (ScAre.len h)
def foldBest (gt:α→α→Bool) (m:α):List α→α
 | []=>m
 | x::r=>foldBest gt (bif gt x m then x else m) r
theorem foldBest_snoc (gt:α→α→Bool):∀ (r:List α) (m x:α),foldBest gt m (r++[x])=bif gt x (foldBest gt m r) then x else foldBest gt m r
 | [],m,x=>rfl
 | y::r,m,x=>foldBest_snoc gt r _ x
theorem argBest_at (gt:α→α→Bool) (m:α) (r:List α):∀ n,n≤r.length→(m::r).getD (argBest (fun i j=>gt ((m::r).getD i m) ((m::r).getD j m)) n) m=foldBest gt m (r.take n)
 | 0,_=>rfl
 | n+1,hn=>by
  have ih:=argBest_at gt m r n (Nat.le_of_succ_le hn)
  have h2:r[n]?=some ((m::r).getD (n+1) m):=by
   rw [List.getD_cons_succ,List.getD_eq_getElem?_getD,List.getElem?_eq_getElem hn]; rfl
  rw [List.take_add_one,h2,Option.toList_some,foldBest_snoc,← ih]
  show (m::r).getD (if gt _ _=true then n+1 else _) m=_
  cases gt ((m::r).getD (n+1) m) ((m::r).getD (argBest (fun i j=>gt ((m::r).getD i m) ((m::r).getD j m)) n) m) <;> rfl
structure Ord (α:Type) where
 A:Sc α
 gt:α→α→Bool
 op:CmpOp
 ok:∀ (P:Program) (w:World) (Ar:Around) (s:Shared) (a b:α) (t u:Tok) (Q:Value→Shared→Prop) (E:Value→Shared→Prop),Q (.bool (gt a b)) s→wpAny (model P w) Ar (richCompare op (A.ve a t) (A.ve b u)) Q E s
def BestIn (X:Cx) (Ar:Around) (op:CmpOp) (vs:List Value) (v:Value→Prop):Prop:=∃ bt:Nat→Nat→Bool,0 < vs.toArray.size∧CmpOf X.prog X.w Ar op (fun i v=>vs.toArray[i]?=some v) bt∧∀ u,vs.toArray[argBest bt (vs.toArray.size - 1)]?=some u→v u
theorem best_items (O:Ord α) {X:Cx} {Ar:Around} {m:α} {ns:List α} (r:ScAre O.A (m::ns) vs):BestIn X Ar O.op vs fun u=>∃ t,u=O.A.ve (foldBest O.gt m ns) t:=by
 have at':∀ i v,vs.toArray[i]?=some v→∃ t,v=O.A.ve ((m::ns).getD i m) t:=fun i v h=>by
  obtain ⟨a,t,h1,h2⟩:=r.get (i:=i) (by simpa using h)
  rw [List.getD_eq_getElem?_getD,h1]
  exact ⟨t,h2⟩
 refine ⟨fun i j=>O.gt ((m::ns).getD i m) ((m::ns).getD j m),by rw [List.size_toArray,r.len]; exact Nat.succ_pos _,fun i j vi vj s' Q E hi hj hQ=>?_,fun v hv=>?_⟩
 ·obtain ⟨t,rfl⟩:=at' i vi hi
  obtain ⟨u,rfl⟩:=at' j vj hj
  exact O.ok _ _ _ _ _ _ _ _ _ _ hQ
 ·rw [List.size_toArray,r.len] at hv
  have:=at' _ _ hv
  rw [show (m::ns).length - 1=ns.length from rfl,argBest_at O.gt m ns ns.length (Nat.le_refl _),List.take_length] at this
  exact this
noncomputable def gtI:Ord Int:=⟨scI,fun a b=>decide (a > b),.Gt,fun _ _ _ _ _ _ _ _ _ _ h=>PySem.P.gt_int h⟩
noncomputable def gtF:Ord UInt64:=⟨scF,fun a b=>Float64.cmp a b==some .gt,.Gt,fun _ _ _ _ _ _ _ _ _ _ h=>AutoFloatOps.gt_0 h⟩
noncomputable def ltF:Ord UInt64:=⟨scF,fun a b=>Float64.cmp a b==some .lt,.Lt,fun _ _ _ _ _ _ _ _ _ _ h=>AutoFloatOps.lt_0 h⟩
noncomputable def bestOf (O:Ord α) (ps:List PV):Option PV:=(scs O.A ps).bind fun l=>List.casesOn l none fun m ns=>some (O.A.pv (foldBest O.gt m ns))
abbrev BestAsk (X:Cx) (Ar:Around) (op:CmpOp) (Q:Value→Shared→Prop) (it:Value) (s₂:Shared):Prop :=
 ∃ I fp wr n P St bt,it=.ref I∧Walks X.prog X.w Ar I fp wr n P St∧St 0 s₂.heap∧(∀ b∈fp,b < s₂.heap.objs.size)∧0 < n∧CmpOf X.prog X.w Ar op P bt ∧
   ∀ v h' tk,P (argBest bt (n - 1)) v→(∀ b o,b ∉ wr→s₂.heap.get? b=some o→h'.get? b=some o)→Q v { s₂ with heap:=h',toks:=tk }
theorem best_go (O:Ord α) (V:Bs Z s) (rl:Z.RepL s.heap ps vs) (e:bestOf O ps=some r) {P:Prop} (k:∀ u:Value→Prop,(∀ v h' tk,u v→Ext s.heap h'→(∀ v s',Stp Z.X Z.X.V s s'→Z.Rep s'.heap r v→Q v s')→Q v { s with heap:=h',toks:=tk })→BestIn Z.X Z.Ar.in1 O.op vs u→P):P :=
 onBind e fun l e1 e=>by
  cases l with
  | nil=>exact no e
  | cons m ns =>
   obtain rfl:=Option.some.inj e
   exact k _ (fun v h' tk hv x q=>by obtain ⟨t,rfl⟩:=hv; exact V.at x O.A.rp q) (best_items O (scs_is O.A rl e1))
theorem off_new {h h':Heap} (k:∀ b o,b ∉ [h.objs.size]→h.get? b=some o→h'.get? b=some o):Ext h h':=fun b o e=>k b o (fun m=>absurd (List.mem_singleton.mp m) (Nat.ne_of_lt (Heap.lt_size e))) e
theorem best_lst {op:CmpOp} {u:Value→Prop} {a:Addr} {n:Nat} (V:Bs Z s) (g:s.heap.get? a=some (lstO vs n)) (b:BestIn Z.X Z.Ar.in1 op vs u) (h:∀ v h' tk,u v→Ext s.heap h'→Q v { s with heap:=h',toks:=tk }):wpAny Z.X.M Z.Ar.in1 (pyIter (.ref a)) (BestAsk Z.X Z.Ar.in1 op Q) E s:=by
 obtain ⟨bt,h1,h2,h3⟩:=b
 have hl:=Heap.lt_size g
 refine wpAny_pyIter_list (lst_is g) ⟨_,_,_,_,_,_,bt,rfl,Walks.list (A:=Z.Ar.in1) V.R.hh s.heap.objs.size a (Nat.ne_of_lt hl) vs.toArray,⟨⟨_,Heap.get?_push_size _ rfl,rfl,rfl⟩,(lst_is g).push _⟩,fun b hb=>?_,h1,h2,fun v h' tk hp hk=>h v h' tk (h3 v hp) (off_new fun b o m e=>hk b o m (Heap.get?_push_of_some _ e))⟩
 show b < (s.heap.push _).objs.size
 rw [Heap.size_push]
 exact (List.mem_cons.mp hb).elim (fun q=>q▸Nat.lt_succ_self _) fun q=>List.mem_singleton.mp q▸Nat.lt_succ_of_lt hl
theorem best_tup {op:CmpOp} {u:Value→Prop} (V:Bs Z s) (b:BestIn Z.X Z.Ar.in1 op vs u) (h:∀ v h' tk,u v→Ext s.heap h'→Q v { s with heap:=h',toks:=tk }):wpAny Z.X.M Z.Ar.in1 (pyIter (.ref s.heap.objs.size)) (BestAsk Z.X Z.Ar.in1 op Q) E { s with heap:=s.heap.push { cls:=.type "tuple",data:=.seq vs.toArray } }:=by
 obtain ⟨bt,h1,h2,h3⟩:=b
 have g:(s.heap.push { cls:=.type "tuple",data:=.seq vs.toArray }).get? s.heap.objs.size=some (tupO vs 0):=Heap.get?_push_size _ rfl
 have hl:=Heap.lt_size g
 refine wpAny_pyIter_tuple (tup_is g) ⟨_,_,_,_,_,_,bt,rfl,Walks.tuple (A:=Z.Ar.in1) V.R.hh _ s.heap.objs.size (Nat.ne_of_lt hl) vs.toArray,⟨⟨_,Heap.get?_push_size _ rfl,rfl,rfl⟩,(tup_is g).push _⟩,fun b hb=>?_,h1,h2,fun v h' tk hp hk=>h v h' tk (h3 v hp) fun b o e=>hk b o (fun m=>?_) (Heap.get?_push_of_some _ (Heap.get?_push_of_some _ e))⟩
 ·show b < ((s.heap.push _).push _).objs.size
  rw [Heap.size_push]
  exact (List.mem_cons.mp hb).elim (fun q=>q▸Nat.lt_succ_self _) fun q=>List.mem_singleton.mp q▸Nat.lt_succ_of_lt hl
 ·exact absurd (List.mem_singleton.mp m) (Nat.ne_of_lt (Heap.lt_size (Heap.get?_push_of_some _ e)))
noncomputable def maxL:BN:=⟨"max",.builtin "max",by decide +kernel,by decide +kernel,Calls.callWith_builtin,arg1 fun p=>p.lst?.bind (bestOf gtI),
 fun {Z s ps vs r} V rl e=>on1 rl e (M:=fun vs=>Gets Z s r (call (.builtin "max") vs)) fun p v e rp=>onBind e fun xs e1 e=>rp.lst e1 (M:=fun v=>Gets Z s r (call (.builtin "max") [v])) fun a n vs _ g rl Q E h =>
  best_go gtI V rl e fun u k b=>call_max_walk (best_lst V g b fun v h' tk hu x=>k v h' tk hu x h)⟩
noncomputable def max2:BN:=⟨"max",.builtin "max",by decide +kernel,by decide +kernel,Calls.callWith_builtin,fun ps=>(arg2 (fun _ _=>some .none) ps).bind fun _=>bestOf gtI ps,
 fun {Z s ps vs r} V rl e=>onBind e fun _ e0 e=>on2 rl e0 (M:=fun vs=>Z.RepL s.heap ps vs→Gets Z s r (call (.builtin "max") vs)) (fun p q v w _ _ _ rl Q E h=>best_go gtI V rl e fun u k b=>call_max_two (best_tup V b fun v h' tk hu x=>k v h' tk hu x h)) rl⟩
noncomputable def three (ps:List PV):Option PV:=List.casesOn ps none fun _ r=>List.casesOn r none fun _ r=>List.casesOn r none fun _ r=>List.casesOn r (some .none) fun _ _=>none
theorem on3 {vs:List Value} (rl:Z.RepL s.heap ps vs) (h:three ps=some r) {M:List Value→Prop} (k:∀ a b c,M [a,b,c]):M vs:=by
 cases ps with
 | nil=>exact no h
 | cons p ps=>cases ps with
  | nil=>exact no h
  | cons q ps=>cases ps with
   | nil=>exact no h
   | cons q ps=>cases ps with
    | cons q ps=>exact no h
    | nil=>obtain ⟨v,_,rfl,_,w,_,rfl,_,u,_,rfl,_,rfl⟩:=rl; exact k v w u
noncomputable def best3 (O:Ord α) (ps:List PV):Option PV:=(three ps).bind fun _=>bestOf O ps
noncomputable def max3:BN:=⟨"max",.builtin "max",by decide +kernel,by decide +kernel,Calls.callWith_builtin,best3 gtF,
 fun {Z s ps vs r} V rl e=>onBind e fun _ e1 e=>on3 rl e1 (M:=fun vs=>Z.RepL s.heap ps vs→Gets Z s r (call (.builtin "max") vs)) (fun a b c rl Q E h=>best_go gtF V rl e fun u k b=>call_max_three (best_tup V b fun v h' tk hu x=>k v h' tk hu x h)) rl⟩
noncomputable def min3:BN:=⟨"min",.builtin "min",by decide +kernel,by decide +kernel,Calls.callWith_builtin,best3 ltF,
 fun {Z s ps vs r} V rl e=>onBind e fun _ e1 e=>on3 rl e1 (M:=fun vs=>Z.RepL s.heap ps vs→Gets Z s r (call (.builtin "min") vs)) (fun a b c rl Q E h=>best_go ltF V rl e fun u k b=>call_min_three (best_tup V b fun v h' tk hu x=>k v h' tk hu x h)) rl⟩
end
end Mine
end
section
open PySem PySem.W PyProof.Rows
namespace Mine
open PySem.SeqAt PySem.Builtin.Str
section
variable {sc:SC} {Z:Fr} {σ:List Slot} {ws:Nat→Option Value} {s s':Shared} {Q:Value→Shared→Prop} {E:Value→Shared→Prop} {p q r:PV} {v w:Value} {xs ps:List PV} {vs:List Value}
theorem ints_of:∀ {ns:List Int} {vs:List Value},ScAre scI ns vs→∃ xs:List (Int × Tok),vs=xs.map (fun p=>.int p.1 p.2)∧xs.map (·.1)=ns
 | [],_,r=>by obtain rfl:_=[]:=r; exact ⟨[],rfl,rfl⟩
 | n::ns,_,r=>by
  obtain ⟨t,r,rfl,h⟩:=r
  obtain ⟨xs,e1,e2⟩:=ints_of h
  exact ⟨(n,t)::xs,by rw [e1]; rfl,by rw [← e2]; rfl⟩
theorem ints_rep {h:Heap} {B:Addr→Prop}:∀ {ns:List Int} {vs:List Value},IntsAre vs ns→Mine.RepL h B (ns.map .int) vs
 | _,_,.nil=>RepL.nil
 | _,_,.cons n t r=>RepL.cons Rep.mkInt (ints_rep r)
noncomputable def sumL:BN:=⟨"sum",.builtin "sum",by decide +kernel,by decide +kernel,Calls.callWith_builtin,arg1 fun p=>p.lst?.bind fun xs=>(scs scI xs).map fun ns=>.int ns.sum,
 fun {Z s ps vs r} V rl e=>on1 rl e (M:=fun vs=>Gets Z s r (call (.builtin "sum") vs)) fun p v e rp=>onBind e fun xs e1 e=>onMap e fun ns e2 e=>rp.lst e1 (M:=fun v=>Gets Z s r (call (.builtin "sum") [v])) fun a n vs _ g rl Q E h=>by
  obtain ⟨is,e3,e4⟩:=ints_of (scs_is scI rl e2)
  subst e3 e4 e
  refine sum_intListG (xs:=is.toArray) V.R.hh (l:=a) ?_ fun h' tk t' hk=>?_
  ·have:=lst_is g
   simpa [intItems] using this
  ·rw [show preSum (numAt is.toArray) is.toArray.size=(is.map (·.1)).sum by rw [preSum_eq,List.take_of_length_le (by simp)]]
   exact V.at hk Rep.mkInt h⟩
noncomputable def divB:BN:=⟨"divmod",.builtin "divmod",by decide +kernel,by decide +kernel,Calls.callWith_builtin,arg2 fun p q=>p.int?.bind fun a=>q.int?.bind fun b=>bif nz b&&sm b then some (.tup [.int (Int.fdiv a b),.int (Int.fmod a b)]) else none,
 fun {Z s ps vs r} V rl e=>on2 rl e (M:=fun vs=>Gets Z s r (call (.builtin "divmod") vs)) fun p q v w e rp rq=>onBind e fun a e1 e=>onBind e fun b e2 e=>onIf e (M:=fun r=>Gets Z s r (call (.builtin "divmod") [v,w])) fun c Q E h=>by
  obtain ⟨t,rfl⟩:=scI.rd rp e1
  obtain ⟨u,rfl⟩:=scI.rd rq e2
  exact PyProof.Rows.divmod_int (nz_ne (both c).1) (V.tup (tk:=s.toks+1+1) (vs:=[.int _ s.toks,.int _ (s.toks+1)]) (RepL.cons Rep.mkInt (RepL.cons Rep.mkInt RepL.nil)) h) (.inl (PyProof.noPylong_of_log2 (Nat.lt_trans (nat_log (sm_lt (both c).2)) (by decide))))⟩
structure MN where
 x:Str
 T:String
 id:String
 pa:PlainAttrs T
 sl:PySem.Slot T x id
 ty:typeOf (.builtin id)=pure (.type "method_descriptor")
 f:PV→List PV→Option PV
 on:∀ {Z:Fr} {s:Shared} {p:PV} {ps:List PV} {v:Value} {r:PV},Bs Z s→Z.Rep s.heap p v→f p ps=some r→s.TypeIs v T∧∀ l,v=.ref l→∃ ob,s.heap.get? l=some ob∧ob.dict=none
 ok:∀ {Z:Fr} {s:Shared} {p:PV} {ps:List PV} {v:Value} {vs:List Value} {r:PV},Bs Z s→Z.Rep s.heap p v→Z.RepL s.heap ps vs→f p ps=some r→Gets Z s r (call (.builtin id) (v::vs))
 sc:∀ p ps r,f p ps=some r→scal r=true
def evX (Φ:Fns) (σ:List Slot):List (SX sc)→Option (List PV)
 | []=>some []
 | x::r=>(x.ev Φ σ).bind fun p=>(evX Φ σ r).map (p::·)
def exprX (as:List (SX sc)):List Expr:=as.map SX.e
theorem evX_ok {pos:Pos} {Q:List Value→Shared→Prop}:∀ {as:List (SX sc)} {s:Shared} {ps:List PV},Ev Z sc σ ws s→evX Z.Φ σ as=some ps→(∀ vs s',Stp Z.X Z.X.V s s'→Ev Z sc σ ws s'→Z.weak.RepL s'.heap ps vs→Q vs s')→wpAny Z.X.M Z.Ar (spliced (backTo pos (starEach (exprX as) Z.env))) Q E s
 | [],_,_,V,e,q=>wpAny_pure (q [] _ .refl V (Option.some.inj e▸RepL.nil))
 | a::as,_,_,V,e,q=>onBind e fun p e1 e=>onMap e fun ps e2 e=>wpAny_items_cons (a.go V e1 fun v s₁ x₁ V₁ r₁=>evX_ok V₁ e2 fun vs s₂ x₂ V₂ rl=>q _ s₂ (x₁.trans x₂) V₂ (e▸RepL.cons (r₁.stp (Z:=Z.weak) (fun _ h=>h) x₂) rl)) (a.pl.st _ _)
noncomputable def SE.meth (m:MN) (o:SX sc) (as:List (SX sc)) (p1 p:Pos) (hs:∀ x env t,attributeBase o.e x env t=t) (hl:(p1.endLine==p.line)=true) (hz:Nat.ble as.length 1=true):SE sc :=
 ⟨.Call (.Attribute o.e m.x p1) (exprX as) [] p,fun Φ σ=>(o.ev Φ σ).bind fun v=>(evX Φ σ as).bind (m.f v),⟨fun _ _=>rfl,fun op=>by cases op <;> rfl,fun _ _=>rfl⟩,
 fun {Z σ ws s r} V e Q E q=>onBind e fun a e1 e=>onBind e fun ps e2 e=>by
  have np:(backTo p (starEach (exprX as) Z.env)).any (·.1)=false∧(((backTo p (starEach (exprX as) Z.env)).all (fun x=>!x.1)&&(backToKw p (keywordEach [] Z.env)).all (fun x=>x.1.isSome)&&decide ((exprX as).length+([]:List Keyword).length+(if ([]:List Keyword).isEmpty then 0 else 1) < 30))=true):=by
   cases as with
   | nil=>exact ⟨rfl,rfl⟩
   | cons a as=>cases as with
    | nil =>
     show (backTo p (starEach [a.e] Z.env)).any (·.1)=false∧((backTo p (starEach [a.e] Z.env)).all (fun x=>!x.1)&&_&&_)=true
     rw [a.pl.st]
     exact ⟨rfl,rfl⟩
    | cons b as=>exact nomatch hz
  have ac:∀ {s:Shared} {Q:Args→Shared→Prop},wpAny Z.X.M Z.Ar (spliced (backTo p (starEach (exprX as) Z.env))) (fun vs s'=>Q ⟨vs,[]⟩ s') E s→wpAny Z.X.M Z.Ar (evalArgs (.builtin m.id) true (backTo p (starEach (exprX as) Z.env)) []) Q E s:=by
   intro s Q h
   cases as with
   | nil=>exact h
   | cons a as =>
    have e:backTo p (starEach (exprX (a::as)) Z.env)=(false,eval a.e Z.env)::backTo p (starEach (exprX as) Z.env):=congrArg (backTo p) (a.pl.st Z.env (exprX as))
    rw [e] at h ⊢
    exact Calls.evalArgs_plain h
  refine wpAny_Call_method_lateS (hs _ _ _) np.2 hl (o.go V e1 fun v s₁ x₁ V₁ r₁=>?_)
  have on:=m.on (Z:=Z.weak) V₁.toBs.weak r₁ e
  exact ⟨m.T,m.id,m.pa,m.sl,m.ty,on.1,on.2,Calls.callWith_builtin np.1 (ac (evX_ok V₁ e2 fun vs s₂ x₂ V₂ rl=>(m.ok (Z:=Z.weak) V₂.toBs.weak (r₁.stp (Z:=Z.weak) (fun _ h=>h) x₂) rl e).go (x₁.trans x₂) fun v s' st rr=>q v s' st (scal_rep (m.sc _ _ _ e) rr)))⟩⟩
end
end Mine
end
section
open PySem PySem.W PyProof.Rows
namespace Mine
open PySem.SeqAt PySem.Builtin.Str
section
variable {Z:Fr} {s:Shared} {p q r:PV} {v w:Value} {xs ps:List PV} {vs:List Value}
noncomputable def bitM:MN:=⟨"bit_length","int","int.bit_length",F.plainAttrs_int,F.slot_int_bit_length,F.type_int_bit_length,
 fun p ps=>List.casesOn ps (p.int?.map fun a=>.int (Builtin.Int.intBits a)) fun _ _=>none,
 fun {Z s p ps v r} V rp e=>by
  cases ps with
  | cons a b=>exact no e
  | nil=>exact onMap e fun a e1 _=>by obtain ⟨t,rfl⟩:=scI.rd rp e1; exact ⟨typeIs_int _ _ _,fun _ q=>nomatch q⟩,
 fun {Z s p ps v vs r} V rp rl e=>by
  cases ps with
  | cons a b=>exact no e
  | nil =>
   obtain rfl:vs=[]:=rl
   refine onMap e fun a e1 e=>?_
   obtain ⟨t,rfl⟩:=scI.rd rp e1
   subst e
   exact fun Q E h=>PyProof.Rows.call_int_bit_length (V.int h),
 fun p ps r e=>by
  cases ps with
  | cons a b=>exact no e
  | nil=>exact onMap e fun a e1 e=>e▸rfl⟩
noncomputable def isI (a:Int) (v:Value):Bool:=Value.casesOn (motive:=fun _=>Bool) v false false false (fun _=>false) (fun b _=>b==a) (fun _ _=>false) (fun _ _=>false) (fun _ _=>false) (fun _=>false) (fun _=>false) (fun _=>false)
theorem strs_of:∀ {ss:List Str} {vs:List Value},ScAre scS ss vs→∃ l:List (Str × Tok),vs=strValues l∧l.map (·.1)=ss
 | [],_,r=>by obtain rfl:_=[]:=r; exact ⟨[],rfl,rfl⟩
 | n::ns,_,r=>by
  obtain ⟨t,r,rfl,h⟩:=r
  obtain ⟨xs,e1,e2⟩:=strs_of h
  exact ⟨(n,t)::xs,by rw [e1]; rfl,by rw [← e2]; rfl⟩
noncomputable def catS (ss:List Str):Str:=⟨(ss.flatMap (·.cps.toList)).toArray⟩
theorem join_is (sep:Str) (h:sep.length=0):∀ ss:List Str,Txt.join sep ss=catS ss:=by
 intro ss
 show glued sep ss=_
 rw [StrLaws.glued_eq_join]
 have hs:sep.cps=#[]:=Array.eq_empty_of_size_eq_zero h
 induction ss with
 | nil=>rfl
 | cons x r ih =>
  cases r with
  | nil=>obtain ⟨⟨c⟩⟩:=x; simp [Str.join,catS]
  | cons y r =>
   show x++sep++Str.join sep (y::r)=_
   rw [ih]
   obtain ⟨⟨c⟩⟩:=x
   obtain ⟨sc⟩:=sep
   simp only at hs
   subst hs
   show Str.mk ((⟨c⟩++#[])++_)=_
   simp [catS]
noncomputable def sumLen (ss:List Str):Nat:=(ss.map (·.length)).sum
theorem not_tooLong {sep:Str} {ss:List Str} (h0:sep.length=0) (h:fits (sumLen ss)=true):tooLong (ss.toArray.foldl (·+·.length+sep.length) 0)=false:=by
 rw [StrLaws.joinTotal,h0]
 have h2:(ss.map (·.length)).sum≤1000000:=fits_le h
 unfold tooLong
 exact decide_eq_false (by simp only [sizeLine]; omega)
noncomputable def joinM:MN:=⟨"join","str","str.join",F.plainAttrs_str,F.slot_str_join,F.type_str_join,
 fun p ps=>p.str?.bind fun sep=>bif Nat.beq sep.length 0 then arg1 (fun q=>q.lst?.bind fun xs=>(scs scS xs).bind fun ss=>bif fits (sumLen ss) then some (.str (catS ss)) else none) ps else none,
 fun {Z s p ps v r} V rp e=>onBind e fun xs e1 _=>by obtain ⟨t,rfl⟩:=scS.rd rp e1; exact ⟨typeIs_str _ _ _,fun _ q=>nomatch q⟩,
 fun {Z s p ps v vs r} V rp rl e=>onBind e fun sep e1 e=>by
  obtain ⟨t,rfl⟩:=scS.rd rp e1
  cases h0:Nat.beq sep.length 0 with
  | false=>rw [h0] at e; exact no e
  | true =>
   rw [h0] at e
   have h0:=Nat.eq_of_beq_eq_true h0
   exact on1 rl e (M:=fun vs=>Gets Z s r (call (.builtin "str.join") (.str sep t::vs))) fun q w e rq=>onBind e fun xs e2 e=>onBind e fun ss e3 e=>onIf e (M:=fun r=>Gets Z s r (call (.builtin "str.join") [.str sep t,w])) fun c =>
    rq.lst e2 (M:=fun w=>Gets Z s _ (call (.builtin "str.join") [.str sep t,w])) fun a n us _ g ru Q E h=>by
     obtain ⟨l,rfl,e4⟩:=strs_of (scs_is scS ru e3)
     subst e4
     have hok:=not_tooLong h0 c
     rw [← join_is sep h0] at h
     exact call_meets F.slot_str_join (typeIs_str _ _ _) F.entry_str_join (F.args_str_join_2 _ _) (meets_str_join_list sep t a l hok) ⟨lst_is g,post_join l ⟨joinFit_length hok,fun t' k=>V.str h⟩⟩,
 fun p ps r e=>onBind e fun sep _ e=>by
  cases h0:Nat.beq sep.length 0 with
  | false=>rw [h0] at e; exact no e
  | true=>rw [h0] at e; exact on1s e fun q e=>onBind e fun xs _ e=>onBind e fun ss _ e=>onIf e (M:=fun r=>scal r=true) fun _=>rfl⟩
end
end Mine
end
section
open PySem PySem.W PyProof.Rows
namespace Mine
def Fr.K (Z:Fr) (a:Addr):Prop:=Z.X.V a∧¬ Z.U a
def setW (ws:Nat→Option Value) (i:Nat) (v:Value) (j:Nat):Option Value:=if j=i then some v else ws j
theorem setW_i {ws:Nat→Option Value} {i:Nat} {v:Value}:setW ws i v i=some v:=if_pos rfl
theorem setW_j {ws:Nat→Option Value} {i j:Nat} {v:Value} (h:j≠i):setW ws i v j=ws j:=if_neg h
noncomputable def isTo (sc:SC) (i:Nat) (x:Str):Bool:=sc.Γ[i]?==some x&&(sc.N.lookup x==some .local || sc.N.lookup x==some .cell)
section
variable {sc:SC} {Z:Fr} {σ:List Slot} {ws:Nat→Option Value} {s s':Shared} {E:Value→Shared→Prop} {h h':Heap} {o:Option Value} {t:Slot} {l:Loc}
theorem SlotV.move (r:SlotV Z h o t) (hB:∀ a ob,Z.B a→h.get? a=some ob→h'.get? a=some ob) (hL:∀ a vs n,Z.X.N≤a→h.get? a=some (lstO vs n)→h'.get? a=some (lstO vs n)) (hD:∀ a ob,FarFrom Z a→h.get? a=some ob→h'.get? a=some ob):SlotV Z h' o t:=by
 cases t with
 | unset=>trivial
 | val p=>exact r.imp fun v q=>⟨q.1,Rep.move q.2 fun a ob b e=>⟨b,hB a ob b e⟩⟩
 | own c=>exact ContV.move r rfl (fun a ob b e=>⟨b,hB a ob b e⟩) (fun a _ vs n _ _ u e=>hL a vs n u e) fun a ob _ _ _ _ _ f e=>⟨f,hD a ob f e⟩
 | fn v=>exact r
 | is v=>exact r
theorem At.live:∀ {l:Loc},At h o l→∃ ob,h.get? l.addr=some ob∧NotCode ob∧∀ vs n,ob≠lstO vs n
 | .loc _ _,⟨m,⟨ob,es,ep,q,hd,_⟩,_⟩=>⟨ob,q,.inr fun vs e=>(by rw [hd] at e; cases e),fun vs n e=>(by rw [e] at hd; cases hd)⟩
 | .cell _,⟨ob,q,hd⟩=>⟨ob,q,.inr fun vs e=>(by rw [hd] at e; cases e),fun vs n e=>(by rw [e] at hd; cases hd)⟩
theorem At.notLst (x:At h o l) {a:Addr} {vs:List Value} {n:Nat} (e:h.get? a=some (lstO vs n)):a≠l.addr:=fun q=>by
 obtain ⟨ob,h1,_,h2⟩:=x.live
 rw [← q,e] at h1
 exact h2 _ _ (Option.some.inj h1).symm
theorem ns_one {a:Addr} {m m':Str→Option Value} (x:h.Ns a m) (y:h.Ns a m') (z:Str):m z=m' z:=by
 obtain ⟨ob,es,ep,e,hd,_,hf⟩:=x
 obtain ⟨ob',es',ep',e',hd',_,hf'⟩:=y
 rw [e] at e'; cases e'
 rw [hd] at hd'; cases hd'
 rw [← hf z,hf' z]
theorem ns_cell {a:Addr} {m:Str→Option Value} (x:h.Ns a m) (y:h.IsCell a o):False:=by
 obtain ⟨ob,es,ep,e,hd,_⟩:=x
 obtain ⟨ob',e',hd'⟩:=y
 rw [e] at e'; cases e'
 rw [hd] at hd'; cases hd'
theorem place_set (D:Dy Z σ ws s) {i:Nat} {v:Value} (hl:Z.ls[i]?=some l) (hw:i < Z.wr) (hx:∀ a ob,a≠l.addr→s.heap.get? a=some ob→h'.get? a=some ob) (ha:At h' (some v) l)
  (hk:∀ l'∈Z.ls,l'≠l→∀ o,At s.heap o l'→At h' o l') (hv:SlotV Z s.heap (some v) t) (hf:∀ xs,t=.own xs→(∀ j ys,j≠i→σ[j]?=some (.own ys)→ws j≠some v)∧∀ a,v=.ref a→Z.U a) {tk:Nat} :
  Stp Z.X Z.K s { s with heap:=h',toks:=tk }∧Dy Z (σ.set i t) (setW ws i v) { s with heap:=h',toks:=tk }:=by
 have hu:=D.mine i l hw hl
 have old:=D.pl i l hl
 have live:∀ a,h'.get? a=none→s.heap.get? a=none:=fun a e=>by
  by_cases q:a=l.addr
  ·obtain ⟨ob,e',_⟩:=ha.live
   rw [q,e'] at e; cases e
  ·cases z:s.heap.get? a with
   | none=>rfl
   | some ob=>rw [hx a ob q z] at e; cases e
 have G:Z.X.G s.heap→Z.X.G h':=fun g=>D.K.Gk _ _ (fun a=>a=l.addr) g (fun a q=>q▸D.turn _ hu) fun a ob q e=>hx a ob q e
 have st:Stp Z.X Z.K s { s with heap:=h',toks:=tk }:=⟨fun a ob k e=>hx a ob (fun q=>k.2 (q▸hu)) e,G,fun _ _ _ e=>e,id,rfl⟩
 have hi:i < σ.length:=D.len▸(List.getElem?_eq_some_iff.mp hl).1
 have nb:∀ a ob,Z.B a→s.heap.get? a=some ob→h'.get? a=some ob:=fun a ob b e=>hx a ob (fun q=>D.dis _ hu (q▸b)) e
 have nl:∀ a vs n,Z.X.N≤a→s.heap.get? a=some (lstO vs n)→h'.get? a=some (lstO vs n):=fun a vs n _ e=>hx a _ (old.notLst e) e
 have nd:∀ a ob,FarFrom Z a→s.heap.get? a=some ob→h'.get? a=some ob:=fun a ob f e=>hx a _ (f.1 l (List.mem_of_getElem? hl)) e
 refine ⟨st,{ K:=D.K,R:=D.R,g:=G D.g,fresh:=fun a n e=>D.fresh a n (live a e),sub:=D.sub,dis:=D.dis,turn:=fun a u=>?_,len:=by rw [List.length_set]; exact D.len,pl:=fun j l' e=>?_,hi:=D.hi,ok:=fun j t' e=>?_,mine:=D.mine,ownU:=fun j xs a hj e e2=>?_,apart:=D.apart,nsl:=⟨D.nsl.1,?_⟩,once:=fun j k xs ys e1 e2 e3=>?_ }⟩
 ·by_cases q:a=l.addr
  ·obtain ⟨ob,e',n,_⟩:=ha.live
   exact ⟨(D.turn a u).1,ob,q▸e',n⟩
  ·exact ⟨(D.turn a u).1,(D.turn a u).2.imp fun ob e=>⟨hx a ob q e.1,e.2⟩⟩
 ·by_cases q:j=i
  ·rw [q,hl] at e
   rw [q,setW_i,← Option.some.inj e]
   exact ha
  ·rw [setW_j q]
   exact hk l' (List.mem_of_getElem? e) (fun z=>q ((List.getElem?_inj (List.getElem?_eq_some_iff.mp e).1 D.apart).mp (e.trans (z▸hl.symm)))) _ (D.pl j l' e)
 ·by_cases q:j=i
  ·rw [q,List.getElem?_set_self hi] at e
   rw [q,setW_i,← Option.some.inj e]
   exact hv.move nb nl nd
  ·rw [setW_j q]
   rw [List.getElem?_set_ne (Ne.symm q)] at e
   exact (D.ok j t' e).move nb nl nd
 ·by_cases q:j=i
  ·rw [q,List.getElem?_set_self hi] at e
   rw [q,setW_i] at e2
   exact (hf xs (Option.some.inj e)).2 a (Option.some.inj e2)
  ·rw [setW_j q] at e2
   rw [List.getElem?_set_ne (Ne.symm q)] at e
   exact D.ownU j xs a hj e e2
 ·obtain ⟨m,hm⟩:=D.nsl.2
  by_cases q:Z.env.locals=l.addr
  ·cases l with
   | loc L y=>obtain ⟨m',h',_⟩:=ha; exact ⟨m',q▸h'⟩
   | cell c=>exact (ns_cell hm ((show Z.env.locals=c from q)▸old)).elim
  ·exact ⟨m,hm.at' fun o e=>hx _ o q e⟩
 ·by_cases q:j=i
  ·by_cases q':k=i
   ·rw [q,q']
   ·exfalso
    rw [q,List.getElem?_set_self hi] at e1
    rw [List.getElem?_set_ne (Ne.symm q')] at e2
    rw [q,setW_i,setW_j q'] at e3
    exact (hf xs (Option.some.inj e1)).1 k ys q' e2 e3.symm
  ·rw [setW_j q] at e3
   rw [List.getElem?_set_ne (Ne.symm q)] at e1
   by_cases q':k=i
   ·exfalso
    rw [q',List.getElem?_set_self hi] at e2
    rw [q',setW_i] at e3
    exact (hf ys (Option.some.inj e2)).1 j xs q e1 e3
   ·rw [setW_j q'] at e3
    rw [List.getElem?_set_ne (Ne.symm q')] at e2
    exact D.once j k xs ys e1 e2 e3
theorem storeZ (D:Dy Z σ ws s) (EO:EnvOk Z.env sc Z.ls) {i:Nat} {x:Str} {v:Value} {Q:Unit→Shared→Prop} (hm:isTo sc i x=true) (hw:i < Z.wr) (hv:SlotV Z s.heap (some v) t)
  (hf:∀ xs,t=.own xs→(∀ j ys,j≠i→σ[j]?=some (.own ys)→ws j≠some v)∧∀ a,v=.ref a→Z.U a) (h:∀ s',Stp Z.X Z.K s s'→Dy Z (σ.set i t) (setW ws i v) s'→s'.heap.objs.size=s.heap.objs.size→Q () s'):wpAny Z.X.M Z.Ar (storeName Z.env x v) Q E s:=by
 obtain ⟨h1,h2⟩:=both hm
 have h1:=eq_of_beq h1
 have hl:Z.ls[i]?=some (Z.ls[i]'(EO.len▸(List.getElem?_eq_some_iff.mp h1).1)):=List.getElem?_eq_getElem _
 generalize Z.ls[i]'(EO.len▸(List.getElem?_eq_some_iff.mp h1).1)=l at hl
 have kn:∀ k,(sc.N.lookup x==some k)=true→Z.env.kindOf x=some k:=fun k e=>by rw [← eq_of_beq e,← EO.names]; rfl
 have pl:=D.pl i l hl
 cases k1:sc.N.lookup x==some NameKind.local with
 | true =>
  obtain rfl:=EO.loc i x l h1 hl (eq_of_beq k1)
  obtain ⟨m,hn,hm⟩:=pl
  refine wpAny_storeName_local (kn _ k1) hn (fun h' hn' hs'=>?_) (by rw [EO.kind]; rfl)
  have q:=place_set (h':=h') (tk:=s.toks+1) D hl hw (fun a ob n e=>hs'.extBut a ob n e) ⟨_,hn',if_pos rfl⟩ (fun l' hl' n o e=>?_) hv hf
  ·exact h _ q.1 q.2 hs'.1
  ·by_cases z:l'.addr=Z.env.locals
   ·cases l' with
    | loc L y =>
     obtain rfl:L=Z.env.locals:=z
     obtain ⟨m',g1,g2⟩:=e
     refine ⟨_,hn',(if_neg fun q=>n (by rw [q])).trans ((ns_one hn g1 y).trans g2)⟩
    | cell c=>exact (ns_cell hn ((show c=Z.env.locals from z)▸e)).elim
   ·exact e.keep fun ob eo=>hs'.extBut _ ob z eo
 | false =>
  rw [k1] at h2
  have k2:(sc.N.lookup x==some NameKind.cell)=true:=h2
  obtain ⟨c,hc,rfl⟩:=EO.cel i x l h1 hl (.inl (eq_of_beq k2))
  refine wpAny_storeName_cell EO.kind (kn _ k2) hc pl (fun h' hn' hs'=>?_)
  have q:=place_set (h':=h') (tk:=s.toks) D hl hw (fun a ob n e=>hs'.extBut a ob n e) hn' (fun l' hl' n o e=>?_) hv hf
  ·exact h _ q.1 q.2 hs'.1
  ·by_cases z:l'.addr=c
   ·cases l' with
    | loc L y=>obtain ⟨m',g1,g2⟩:=e; exact (ns_cell g1 ((show L=c from z)▸pl)).elim
    | cell c'=>exact absurd (congrArg Loc.cell z) n
   ·exact e.keep fun ob eo=>hs'.extBut _ ob z eo
theorem store (D:Dy Z σ ws s) (EO:EnvOk Z.env sc Z.ls) {i:Nat} {x:Str} {v:Value} {Q:Unit→Shared→Prop} (hm:isTo sc i x=true) (hw:i < Z.wr) (hv:SlotV Z s.heap (some v) t)
  (hf:∀ xs,t=.own xs→(∀ j ys,j≠i→σ[j]?=some (.own ys)→ws j≠some v)∧∀ a,v=.ref a→Z.U a) (h:∀ s',Stp Z.X Z.K s s'→Dy Z (σ.set i t) (setW ws i v) s'→Q () s'):wpAny Z.X.M Z.Ar (storeName Z.env x v) Q E s :=
 storeZ D EO hm hw hv hf fun s' x D _=>h s' x D
theorem storeV (D:Dy Z σ ws s) (EO:EnvOk Z.env sc Z.ls) {i:Nat} {x:Str} {v:Value} {p:PV} {Q:Unit→Shared→Prop} (hm:isTo sc i x=true) (hw:i < Z.wr) (hv:Z.Rep s.heap p v) (h:∀ ws' s',Stp Z.X Z.K s s'→Dy Z (σ.set i (.val p)) ws' s'→Q () s'):wpAny Z.X.M Z.Ar (storeName Z.env x v) Q E s :=
 store D EO (t:=.val p) hm hw ⟨v,rfl,hv⟩ (fun _ q=>nomatch q) fun s'=>h _ s'
theorem Fr.Rep.stpK {p:PV} {v:Value} (r:Z.Rep s.heap p v) (D:Dy Z σ ws s) (x:Stp Z.X Z.K s s'):Z.Rep s'.heap p v:=Mine.Rep.move r fun a o b e=>⟨b,x.off a o ⟨D.sub a b,fun u=>D.dis a u b⟩ e⟩
theorem Fr.RepL.stpK {ps:List PV} {vs:List Value} (r:Z.RepL s.heap ps vs) (D:Dy Z σ ws s) (x:Stp Z.X Z.K s s'):Z.RepL s'.heap ps vs:=Mine.RepL.move (fun a o b e=>⟨b,x.off a o ⟨D.sub a b,fun u=>D.dis a u b⟩ e⟩) r
theorem Stp.toK (x:Stp Z.X Z.X.V s s'):Stp Z.X Z.K s s':=x.weak fun _ k=>k.1
end
end Mine
end
section
open PySem PySem.W PyProof.Rows
namespace Mine
abbrev Kept (wr:List Addr) (h h':Heap):Prop:=∀ b o,b ∉ wr→h.get? b=some o→h'.get? b=some o
section
variable {Z:Fr} {K:Addr→Prop} {tp:Bool} {it:Value} {xs:List PV} {W₀:Addr→Prop} {S:(Addr→Prop)→Nat→Shared→Prop} {s s' s₀ s₁:Shared} {Q:Value→Shared→Prop} {E:Value→Shared→Prop}
theorem St.fewer {X:Cx} {K:Addr→Prop} {g g':Nat} (x:St X K g s s') (l:g'≤g):St X K g' s s':=x.weak (fun _ _ k _=>k) l
theorem Iter.base (I:Iter Z K tp it xs W₀ S s' s₁) (x:Stp Z.X Z.X.V s s'):Iter Z K tp it xs W₀ S s s₁ :=
 ⟨fun a w=>x.live (.inl (I.mutd _ _ _ I.start a w).1) (I.new a w),I.mutd,I.start,I.keep,fun W i p t e ht B s₂ Q E h1 h2 st g q=>I.item W i p t e ht B s₂ Q E h1 h2 st g fun W' v s3 a1 a2 a3 a4 a5 a6=>q W' v s3 a1 a2 a3 (a4.fewer x.size) a5 fun Q E h=>a6 Q E fun s4 b1 b2=>h s4 (b1.fewer x.size) b2,
  fun W s₂ Q E st g q=>I.done W s₂ Q E st g fun s3 a=>q s3 (a.fewer x.size),I.self⟩
theorem ItGoal.after (h:ItGoal Z K tp s xs Q) (x:Stp Z.X Z.X.V s s'):ItGoal Z K tp s' xs Q:=fun it W S s₁ y I=>h it W S s₁ (x.trans y) (I.base x)
structure Wk (X:Cx) (Ar:Around) (I:Addr) (fp wr:List Addr) (n:Nat) (tp:Bool) (Val:Nat→Heap→Value→Heap→Prop) (S:Nat→Heap→Prop) (M:Nat→Value→Heap→Prop):Prop where
 frame:∀ i h h',S i h→(∀ b∈fp,∀ o,h.get? b=some o→h'.get? b=some o)→S i h'
 item:∀ i (s:Shared) (Q:Option Value→Shared→Prop) (E:Value→Shared→Prop),i < n→S i s.heap →
  (∀ v h' tk,Val i s.heap v h'→M i v h'→Kept wr s.heap h'→Q (some v) { s with heap:=h',toks:=tk })→wpAny X.M Ar (pyNext (.ref I)) Q E s
 go:∀ target i v (s:Shared) (Q:Unit→Shared→Prop) (E:Value→Shared→Prop),(tp=true→∃ es k ps,target=.Tuple es k ps)→M i v s.heap→(∀ h',S (i+1) h'→Kept wr s.heap h'→Q () { s with heap:=h' })→wpAny X.M Ar (letOwnedTupleGo target (.ref I) v) Q E s
 done:∀ (s:Shared) (Q:Option Value→Shared→Prop) (E:Value→Shared→Prop),S n s.heap→(∀ h' tk,Kept wr s.heap h'→Q none { s with heap:=h',toks:=tk })→wpAny X.M Ar (pyNext (.ref I)) Q E s
 code:∀ i h,S i h→∀ b∈wr,∃ o,h.get? b=some o∧NotCode o
 codeM:∀ i v h,M i v h→∀ b∈wr,∃ o,h.get? b=some o∧NotCode o
 self:∀ (s:Shared) (Q:Value→Shared→Prop) (E:Value→Shared→Prop),S 0 s.heap→Q (.ref I) s→wpAny X.M Ar (pyIter (.ref I)) Q E s
theorem kept_st {X:Cx} {g:Nat} {wr:List Addr} {h':Heap} {tk:Nat} (C:CxOk X) (k:Kept wr s.heap h') (c:∀ b∈wr,X.N≤b∧(∃ o,s.heap.get? b=some o∧NotCode o)):St X (X.VW (·∈wr)) g s { s with heap:=h',toks:=tk } :=
 ⟨fun a o n e=>k a o n.2 e,fun q=>C.Gk _ _ (·∈wr) q (fun a m=>c a m) fun a o m e=>k a o m e,fun _ _ _ e=>e,id,rfl⟩
theorem iter_of {I:Addr} {fp wr:List Addr} {n:Nat} {Val:Nat→Heap→Value→Heap→Prop} {H:Nat→Heap→Prop} {M:Nat→Value→Heap→Prop} (V:Bs Z s₀) (C:Wk Z.X Z.Ar I fp wr n tp Val H M) (hn:n=xs.length)
  (x:Stp Z.X Z.X.V s₀ s₁) (st:H 0 s₁.heap) (hw:∀ b∈wr,s₀.heap.get? b=none∧Z.X.N≤b) (hf:∀ b∈fp,b∈wr∨(K b∧∃ o,s₁.heap.get? b=some o)) (hK:∀ a,Z.B a→K a)
  (hv:∀ j p v h h',xs[j]?=some p→Val j h v h'→∀ B₁:Addr→Prop,(∀ a o,Z.B a→s₀.heap.get? a=some o→B₁ a∧h'.get? a=some o)→B₁ h.objs.size→Rep h' B₁ p v) :
  Iter Z K tp (.ref I) xs (·∈wr) (fun W i s=>W=(·∈wr)∧H i s.heap∧∀ a o,K a→a ∉ wr→s₁.heap.get? a=some o→s.heap.get? a=some o) s₀ s₁:=by
 have old:∀ a o,Z.B a→s₀.heap.get? a=some o→a ∉ wr:=fun a o _ e m=>by rw [(hw a m).1] at e; cases e
 have cd:∀ (h:Heap),(∀ b∈wr,∃ o,h.get? b=some o∧NotCode o)→∀ b∈wr,Z.X.N≤b∧(∃ o,h.get? b=some o∧NotCode o):=fun h c b m=>⟨(hw b m).2,c b m⟩
 refine ⟨fun a m=>(hw a m).1,fun W i s st a w=>?_,⟨rfl,st,fun _ _ _ _ e=>e⟩,fun W i s s' K' st y h1 h2=>?_,fun W i p target e ht B s Q E h1 h2 st g q=>?_,fun W s Q E st g q=>?_,fun W s Q E st q=>C.self s Q E st.2.1 q⟩
 ·obtain ⟨rfl,st,_⟩:=st
  exact cd _ (C.code i _ st) a w
 ·obtain ⟨rfl,st,k⟩:=st
  refine ⟨rfl,C.frame i _ _ st fun b m o e=>y.off b o ((hf b m).elim (h1 b) fun q=>q.2.elim fun o' e'=>h2 b o' q.1 e') e,fun a o ka m e=>y.off a o (h2 a o ka e) (k a o ka m e)⟩
 ·obtain ⟨rfl,st,k⟩:=st
  have hi:i < n:=hn▸(List.getElem?_eq_some_iff.mp e).1
  refine C.item i s Q E hi st fun v h' tk hval hm hk=>?_
  have st1:=kept_st (g:=s₀.gens.size) (tk:=tk) V.K hk (cd _ (C.code i _ st))
  have nsz:s.heap.objs.size ∉ wr:=fun m=>by
   obtain ⟨o,e,_⟩:=C.code i _ st _ m
   exact absurd (Heap.lt_size e) (Nat.lt_irrefl _)
  refine q _ v _ (fun _ w=>w) (fun _ w=>.inl w) (cd _ (C.codeM i v h' hm)) st1 (hv i p v s.heap h' e hval _ (fun a o b e'=>⟨⟨h1 a o b (x.off a o (V.sub a b) e'),old a o b e'⟩,hk a o (old a o b e') (k a o (hK a b) (old a o b e') (x.off a o (V.sub a b) e'))⟩) ⟨h2 _ (V.K.size _ g) (get_size _),nsz⟩) fun Q' E' hq=>C.go target i v _ Q' E' ht hm fun h2 st2 hk2=>?_
  exact hq _ (kept_st (tk:=tk) (s:={ s with heap:=h',toks:=tk }) V.K hk2 (cd _ (C.codeM i v h' hm))) ⟨rfl,st2,fun a o ka m e=>hk2 a o m (hk a o m (k a o ka m e))⟩
 ·obtain ⟨rfl,st,k⟩:=st
  refine C.done s Q E (hn▸st) fun h' tk hk=>q _ (kept_st V.K hk (cd _ (C.code _ _ st)))
end
end Mine
end
section
open PySem PySem.W PyProof.Rows
namespace Mine
def plainIter (T:String):Bool:=!["enumerate","zip","dict_itemiterator","dict_reverseitemiterator","odict_iterator","itertools.zip_longest","itertools.pairwise"].contains T&&!(T=="code")
theorem get_ge {h:Heap} {a:Addr} (e:h.objs.size≤a):h.get? a=none:=by
 cases q:h.get? a with
 | none=>rfl
 | some o=>exact absurd (Heap.lt_size q) (Nat.not_lt.mpr e)
section
variable {Z:Fr} {K:Addr→Prop} {tp:Bool} {xs:List PV} {s s' s₀ s₁:Shared} {Q:Value→Shared→Prop} {E:Value→Shared→Prop} {I l:Addr} {vs:List Value} {n:Nat} {v:Value}
theorem go_plain {M:Model} {Ar:Around} {target:Expr} {o:Obj} {T:String} {Q:Unit→Shared→Prop} (ho:s.heap.get? I=some o) (hc:o.cls=.type T) (hT:plainIter T=true) (h:Q () s):wpAny M Ar (letOwnedTupleGo target (.ref I) v) Q E s:=by
 have hT:=not_eq (both hT).1
 have key:wpAny M Ar (do
  let (.ref r,.ref a):=(Value.ref I,v) | return
  let o ← load r
  match o.cls,o.data with
  | .type n,.fields vs =>
   if ["enumerate","zip","dict_itemiterator","dict_reverseitemiterator","odict_iterator","itertools.zip_longest","itertools.pairwise"].contains n&&vs[0]?==some (rawInt a) then
    rule "for.unpacks-the-owned-tuple"
    updateField r 0 .none
  | _,_=>pure ()) Q E s:=by
  cases v with
  | ref a =>
   refine wpAny_bind (wpAny_load ho ?_)
   rw [hc]
   cases o.data with
   | fields vs =>
    show wpAny M Ar (if (_&&_)=true then _ else _) Q E s
    rw [hT]
    exact wpAny_pure h
   | _=>exact wpAny_pure h
  | _=>exact wpAny_pure h
 cases target with
 | Tuple a b c=>exact key
 | List a b=>exact key
 | _=>exact wpAny_pure h
theorem wk_plain {P:Nat→Value→Prop} {S:Nat→Heap→Prop} {fp:List Addr} {T:String} (W:Walks Z.X.prog Z.X.w Z.Ar I fp [I] n P S) (hT:plainIter T=true) (hc:∀ i h,S i h→∃ o,h.get? I=some o∧o.cls=.type T) :
  Wk Z.X Z.Ar I fp [I] n tp (fun i _ v _=>P i v) S fun i _=>S (i+1):=by
 have cd:∀ i h,S i h→∀ b∈[I],∃ o,h.get? b=some o∧NotCode o:=fun i h st b m=>by
  obtain rfl:=List.mem_singleton.mp m
  obtain ⟨o,e,c⟩:=hc i h st
  refine ⟨o,e,.inl fun q=>?_⟩
  rw [c] at q
  have:=not_eq (both hT).2
  rw [Value.type.inj q] at this
  exact nomatch this
 exact ⟨W.frame,fun i s Q E hi st q=>W.item i s Q E hi st fun v h' tk p st' k=>q v h' tk p st' k,fun target i v s Q E _ st q=>(hc _ _ st).elim fun o e=>go_plain e.1 e.2 hT (q _ st fun _ _ _ e=>e),W.done,cd,fun i v h st=>cd _ h st,fun s Q E st q=>W.self 0 s Q E st q⟩
theorem plain_it {P:Nat→Value→Prop} {S:Nat→Heap→Prop} {fp:List Addr} {T:String} {o:Obj} (V:Bs Z s) (hK:∀ a,Z.B a→K a) (hT:plainIter T=true) (W:Walks Z.X.prog Z.X.w Z.Ar s.heap.objs.size fp [s.heap.objs.size] n P S) (hc:∀ i h,S i h→∃ o,h.get? s.heap.objs.size=some o∧o.cls=.type T)
  (hn:n=xs.length) (st:S 0 (s.heap.push o)) (hf:∀ b∈fp,b=s.heap.objs.size∨(K b∧∃ o,s.heap.get? b=some o)) (hv:∀ j p v,xs[j]?=some p→P j v→Z.Rep s.heap p v) (h:ItGoal Z K tp s xs Q):Q (.ref s.heap.objs.size) { s with heap:=s.heap.push o } :=
 h _ _ _ _ V.push (iter_of (Z:=Z) (s₁:={ s with heap:=s.heap.push o }) V (wk_plain W hT hc) hn (V.push (tk:=s.toks)) st (fun b m=>List.mem_singleton.mp m▸⟨get_size _,V.K.size _ V.g⟩) (fun b m=>(hf b m).imp (fun q=>List.mem_singleton.mpr q) fun q=>⟨q.1,q.2.imp fun _ e=>Heap.get?_push_of_some _ e⟩) hK
  fun j p v _ h' e pv B₁ k _=>Mine.Rep.move (hv j p v e pv) k)
theorem it_lst (V:Bs Z s) (hK:∀ a,Z.B a→K a) (g:s.heap.get? l=some (lstO vs n)) (k:K l) (r:Z.RepL s.heap xs vs) (h:ItGoal Z K tp s xs Q):wpAny Z.X.M Z.Ar (pyIter (.ref l)) Q E s :=
 wpAny_pyIter_list (lst_is g) (plain_it V hK (T:="list_iterator") (by decide) (Walks.list V.R.hh s.heap.objs.size l (Nat.ne_of_lt (Heap.lt_size g)) vs.toArray) (fun i h st=>st.1.imp fun o q=>⟨q.1,q.2.1⟩) r.size ⟨⟨_,Heap.get?_push_size _ rfl,rfl,rfl⟩,(lst_is g).push _⟩
  (fun b m=>(List.mem_cons.mp m).imp id fun m=>by obtain rfl:=List.mem_singleton.mp m; exact ⟨k,_,g⟩) (fun j p v e hp=>(Mine.RepL.get r e).elim fun u q=>by
   obtain rfl:v=u:=Option.some.inj ((show vs.toArray[j]?=some v from hp).symm.trans (ag q.1))
   exact q.2) h)
noncomputable def signs (x:Str):List PV:=x.cps.toList.map fun c=>.str ⟨#[c]⟩
theorem signs_len (x:Str):x.cps.size=(signs x).length:=(List.length_map ..).symm
theorem sign_rep {x:Str} {j:Nat} {p:PV} {h:Heap} (e:(signs x)[j]?=some p) (hp:SignAt x j v):Z.Rep h p v:=by
 obtain ⟨c,u,h1,rfl⟩:=hp
 unfold signs at e
 rw [List.getElem?_map] at e
 have h1:x.cps.toList[j]?=some c:=by simpa using h1
 rw [h1] at e
 obtain rfl:=Option.some.inj e
 exact Rep.mkStr
theorem it_str {x:Str} {t:Tok} (V:Bs Z s) (hK:∀ a,Z.B a→K a) (h:ItGoal Z K tp s (signs x) Q):wpAny Z.X.M Z.Ar (pyIter (.str x t)) Q E s:=by
 have one:∀ b∈[s.heap.objs.size],b=s.heap.objs.size∨(K b∧∃ o,s.heap.get? b=some o):=fun b m=>.inl (List.mem_singleton.mp m)
 cases ha:x.cps.all (· < 128)
 ·exact wpAny_pyIter_wide ha (plain_it V hK (T:="str_iterator") (by decide) (Walks.strWide V.R.hh _ x t) (fun i h st=>st.imp fun o q=>⟨q.1,q.2.1⟩) (signs_len x) ⟨_,Heap.get?_push_size _ rfl,rfl,rfl⟩ one (fun j p v e hp=>sign_rep e hp) h)
 ·exact wpAny_pyIter_ascii ha (plain_it V hK (T:="str_ascii_iterator") (by decide) (Walks.strAscii V.R.hh _ x t) (fun i h st=>st.imp fun o q=>⟨q.1,q.2.1⟩) (signs_len x) ⟨_,Heap.get?_push_size _ rfl,rfl,rfl⟩ one (fun j p v e hp=>sign_rep e hp) h)
noncomputable def sm2 (i:Int):Bool:=Nat.blt i.natAbs 4611686018427387904
def ranges (a b:Int):List PV:=(List.range (b - a).toNat).map fun (i:Nat)=>PV.int (a+(i:Int))
theorem range_size (a b:Int):Builtin.Range.rangeSize a b 1=((b - a).toNat:Int):=by rw [rangeSize_one]; split <;> omega
theorem range_small {a b:Int} (ha:sm2 a=true) (hb:sm2 b=true):Builtin.Range.small a b 1=true:=by
 have ha:=Nat.blt_eq.mp ha
 have hb:=Nat.blt_eq.mp hb
 exact small_one (by omega) (by omega) (by omega) (by omega)
theorem it_range {a b:Int} {t u w:Tok} {r:Addr} (V:Bs Z s) (hK:∀ a,Z.B a→K a) (hr:IsRange s.heap r a b 1 t u w) (ha:sm2 a=true) (hb:sm2 b=true) (h:ItGoal Z K tp s (ranges a b) Q):wpAny Z.X.M Z.Ar (pyIter (.ref r)) Q E s:=by
 refine wpAny_pyIter_range hr (range_small ha hb) ?_
 rw [range_size]
 refine plain_it V hK (T:="range_iterator") (by decide) (Walks.range V.R.hh s.heap.objs.size a 1 (b - a).toNat) (fun i h st=>⟨_,st,rfl⟩) (by unfold ranges; rw [List.length_map,List.length_range]) (by simpa using Heap.get?_push_size _ rfl) (fun b m=>.inl (List.mem_singleton.mp m)) (fun j p v e hp=>?_) h
 obtain ⟨t,rfl⟩:=hp
 unfold ranges at e
 rw [List.getElem?_map] at e
 refine onMap e fun i e1 e2=>?_
 have hj:=List.getElem?_eq_some_iff.mp e1
 obtain rfl:j=i:=by rw [← hj.2,List.getElem_range]
 subst e2
 rw [Int.mul_one]
 exact Rep.mkInt
theorem it_rev (V:Bs Z s) (hK:∀ a,Z.B a→K a) (g:s.heap.get? l=some (lstO vs n)) (k:K l) (r:Z.RepL s.heap xs vs) (h:ItGoal Z K tp s xs.reverse Q):wpAny Z.X.M Z.Ar (call (.type "reversed") [.ref l]) (fun v s'=>wpAny Z.X.M Z.Ar (pyIter v) Q E s') E s:=by
 refine call_reversed_list (lst_is g) ?_
 generalize ho:revObj l ((vs.toArray.size:Int) - 1)=o
 have gR:(s.heap.push o).IsRevIter s.heap.objs.size l ((vs.toArray.size:Int) - 1):=⟨_,Heap.get?_push_size _ (by rw [← ho]; rfl),by rw [← ho]; rfl,by rw [← ho]; rfl⟩
 refine wpAny_pyIter_revIter gR (plain_it V hK (T:="list_reverseiterator") (by decide) (Walks.listRev V.R.hh s.heap.objs.size l (Nat.ne_of_lt (Heap.lt_size g)) vs.toArray) (fun i h st=>st.2.1.imp fun o q=>⟨q.1,q.2.1⟩) (by rw [List.length_reverse]; exact r.size) ⟨Nat.zero_le _,by simpa using gR,(lst_is g).push _⟩
  (fun b m=>(List.mem_cons.mp m).imp id fun m=>by obtain rfl:=List.mem_singleton.mp m; exact ⟨k,_,g⟩) (fun j p v e hp=>?_) h)
 have hj:j < xs.length:=List.length_reverse▸(List.getElem?_eq_some_iff.mp e).1
 rw [List.getElem?_reverse hj] at e
 obtain ⟨u,q1,q2⟩:=Mine.RepL.get r e
 rw [← r.size] at q1
 obtain rfl:v=u:=Option.some.inj ((show vs.toArray[vs.toArray.size - 1 - j]?=some v from hp).symm.trans (ag q1))
 exact q2
end
end Mine
end
section
open PySem PySem.W PyProof.Rows
namespace Mine
section
variable {Z:Fr} {K:Addr→Prop} {xs:List PV} {s s':Shared} {Q:Value→Shared→Prop} {E:Value→Shared→Prop} {h h':Heap}
def enumL (i:Nat):List PV→List PV
 | []=>[]
 | x::xs=>.tup [.int (i:Int),x]::enumL (i+1) xs
theorem enumL_len:∀ (xs:List PV) (k:Nat),(enumL k xs).length=xs.length
 | [],_=>rfl
 | x::xs,k=>congrArg (·+1) (enumL_len xs _)
theorem enumL_get:∀ (xs:List PV) (k i:Nat) (p:PV),(enumL k xs)[i]?=some p→∃ q,xs[i]?=some q∧p=.tup [.int ((k+i:Nat):Int),q]
 | [],_,_,_,e=>no e
 | x::xs,k,0,p,e=>⟨x,rfl,(Option.some.inj e).symm⟩
 | x::xs,k,i+1,p,e=>by
  obtain ⟨q,h1,h2⟩:=enumL_get xs (k+1) i p e
  exact ⟨q,h1,by rw [h2,Nat.add_right_comm]; rfl⟩
def Made (PL:List Value→Prop) (h:Heap) (v:Value) (h':Heap):Prop:=v=.ref h.objs.size∧∃ vs,PL vs∧h'.get? h.objs.size=some (tupO vs 0)
theorem wk_enum {it e:Addr} {fp:List Addr} {n:Nat} {P:Nat→Value→Prop} {S:Nat→Heap→Prop} {T:String} (D:Draws Z.X.prog Z.X.w Z.Ar.in1 it fp n P S) (hne:e≠it) (hef:e ∉ fp) (hit:it∈fp) (hc:∀ i h,S i h→∃ o,h.get? it=some o∧o.cls=.type T) (hT:T≠"code") :
  Wk Z.X Z.Ar e (e::fp) [it,e] n true (fun i=>Made fun vs=>∃ t v,vs=[.int (i:Nat) t,v]∧P i v) (fun i h=>(∃ old,IsEnum h e it (i:Nat) old)∧S i h) (fun i v h=>∃ T x,v=.ref T∧IsEnumOut h e it ((i:Int)+1) x T∧S (i+1) h):=by
 have cd:∀ i h o,h.get? e=some o→o.cls=.type "enumerate"→S i h→∀ b∈[it,e],∃ o,h.get? b=some o∧NotCode o:=fun i h o ho hco st b m=>by
  rcases List.mem_cons.mp m with q | m
  ·obtain ⟨o,e1,c⟩:=hc i h st
   exact ⟨o,q▸e1,.inl fun z=>hT (Value.type.inj (c.symm.trans z))⟩
  ·exact ⟨o,List.mem_singleton.mp m▸ho,.inl fun z=>nomatch Value.type.inj (hco.symm.trans z)⟩
 refine ⟨fun i h h' st k=>⟨st.1.imp fun old g=>k e List.mem_cons_self _ g,D.frame i h h' st.2 fun b m o=>k b (List.mem_cons_of_mem _ m) o⟩,fun i s Q E hi st q=>?_,fun target i v s Q E ht m q=>?_,fun s Q E st q=>?_,fun i h st=>st.1.elim fun old g=>cd i h _ g rfl st.2,fun i v h m=>?_,fun s Q E st q=>st.1.elim fun old g=>wpAny_pyIter_enum g q⟩
 ·obtain ⟨⟨old,g⟩,st⟩:=st
  exact wpAny_pyNext_enum_itemD D g st hi hne hef fun v h' tk p a1 a2 a3 a4 a5=>q _ h' _ ⟨rfl,_,⟨tk,v,rfl,p⟩,a3⟩ ⟨_,v,rfl,a1,a2⟩ fun b o m e=>a5 b o (fun z=>m (z▸List.mem_cons_of_mem _ List.mem_cons_self)) (fun z=>m (z▸List.mem_cons_self)) e
 ·obtain ⟨T,x,rfl,g,st⟩:=m
  obtain ⟨es,k,ps,rfl⟩:=ht rfl
  exact wpAny_letOwnedTupleGo_enum g fun h' b1 b2=>q h' ⟨⟨_,b1⟩,D.frame _ _ _ st fun b m o e=>b2.extBut b o (fun z=>hef (z▸m)) e⟩ fun b o m e=>b2.extBut b o (fun z=>m (z▸List.mem_cons_of_mem _ List.mem_cons_self)) e
 ·obtain ⟨⟨old,g⟩,st⟩:=st
  exact wpAny_pyNext_enum_endD D g st fun h' b1=>q h' s.toks fun b o m e=>b1 b o (fun z=>m (z▸List.mem_cons_self)) e
 ·obtain ⟨T,x,rfl,g,st⟩:=m
  exact cd _ _ _ g rfl st
theorem it_enum {fp:List Addr} {n:Nat} {P:Nat→Value→Prop} {S:Nat→Heap→Prop} {T:String} (V:Bs Z s) (hK:∀ a,Z.B a→K a) (D:Draws Z.X.prog Z.X.w Z.Ar.in1 s.heap.objs.size fp n P S) (hn:n=xs.length) (hfp:∀ b∈fp,b=s.heap.objs.size∨(K b∧∃ o,s.heap.get? b=some o)) (hit:s.heap.objs.size∈fp)
  (hc:∀ i h,S i h→∃ o,h.get? s.heap.objs.size=some o∧o.cls=.type T) (hT:T≠"code") (he:IsEnum h' (s.heap.objs.size+1) s.heap.objs.size 0 .none) (st:S 0 h') (x:Ext s.heap h') (hP:∀ j p v,xs[j]?=some p→P j v→Z.Rep s.heap p v)
  (h:ItGoal Z K true s (enumL 0 xs) Q):Q (.ref (s.heap.objs.size+1)) { s with heap:=h' }:=by
 have hef:s.heap.objs.size+1 ∉ fp:=fun m=>(hfp _ m).elim (fun q=>absurd q (Nat.succ_ne_self _)) fun q=>q.2.elim fun o e=>absurd (Heap.lt_size e) (Nat.not_lt.mpr (Nat.le_succ _))
 refine h _ _ _ _ (V.ext x) (iter_of (Z:=Z) (s₁:={ s with heap:=h' }) V (wk_enum D (Nat.succ_ne_self _) hef hit hc hT) (hn.trans (enumL_len xs 0).symm) (V.ext x (tk:=s.toks)) ⟨⟨_,he⟩,st⟩ (fun b m=>?_) (fun b m=>?_) hK fun j p v h1 h2 e pv B₁ k new=>?_)
 ·rcases List.mem_cons.mp m with q | m
  ·exact q▸⟨get_size _,V.K.size _ V.g⟩
  ·exact List.mem_singleton.mp m▸⟨get_ge (Nat.le_succ _),Nat.le_succ_of_le (V.K.size _ V.g)⟩
 ·rcases List.mem_cons.mp m with q | m
  ·exact .inl (q▸List.mem_cons_of_mem _ List.mem_cons_self)
  ·exact (hfp b m).elim (fun q=>.inl (by rw [q]; exact List.mem_cons_self)) fun q=>.inr ⟨q.1,q.2.imp fun o e=>x b o e⟩
 ·obtain ⟨rfl,vs,⟨t,u,rfl,pu⟩,g⟩:=pv
  obtain ⟨q,e1,rfl⟩:=enumL_get xs 0 j p e
  rw [Nat.zero_add]
  exact Rep.mkTup new g (RepL.cons Rep.mkInt (RepL.cons (Mine.Rep.move (hP j q u e1 pu) k) RepL.nil))
theorem enum_lst {l:Addr} {vs:List Value} {n:Nat} (V:Bs Z s) (hK:∀ a,Z.B a→K a) (g:s.heap.get? l=some (lstO vs n)) (k:K l) (r:Z.RepL s.heap xs vs) (h:ItGoal Z K true s (enumL 0 xs) Q):wpAny Z.X.M Z.Ar (call (.type "enumerate") [.ref l]) (fun v s'=>wpAny Z.X.M Z.Ar (pyIter v) Q E s') E s :=
 call_enumerate_list (lst_is g) fun h' b1 b2 b3 b4=>wpAny_pyIter_enum b1 (it_enum V hK (Draws.list (A:=Z.Ar.in1) V.R.hh s.heap.objs.size l (Nat.ne_of_lt (Heap.lt_size g)) vs.toArray) r.size (fun b m=>(List.mem_cons.mp m).imp id fun m=>by obtain rfl:=List.mem_singleton.mp m; exact ⟨k,_,g⟩) List.mem_cons_self (fun i h st=>st.1.imp fun o q=>⟨q.1,q.2.1⟩) (by decide) b1 ⟨b2,_,b4 _ _ g,rfl,_,rfl⟩ b4
  (fun j p v e hp=>(Mine.RepL.get r e).elim fun u q=>by
   obtain rfl:v=u:=Option.some.inj ((show vs.toArray[j]?=some v from hp).symm.trans (ag q.1))
   exact q.2) h)
end
end Mine
end
section
open PySem PySem.W PyProof.Rows
namespace Mine
abbrev zipO (TI TO:Addr) (f0:Value):Obj:={ cls:=.type "zip",dict:=none,data:=.fields #[f0,.bool false,.bool false,.ref TI,.ref TO],slots:=#[] }
structure ZE where
 it:Addr
 l:Addr
 xs:List Value
structure ZP where
 z:Addr
 TI:Addr
 TO:Addr
 its:List ZE
def ZP.refs (p:ZP):List Value:=p.its.map fun e=>.ref e.it
def ZP.wr (p:ZP):List Addr:=p.z::p.TO::p.its.map ZE.it
def ZP.rd (p:ZP):List Addr:=p.TI::p.its.map ZE.l
structure ZP.Ok (p:ZP):Prop where
 nd:p.wr.Nodup
 dj:∀ b∈p.rd,b ∉ p.wr
structure ZP.At (p:ZP) (f0:Value) (i k:Nat) (c:List Value) (h:Heap):Prop where
 z:h.get? p.z=some (zipO p.TI p.TO f0)
 TI:h.get? p.TI=some (tupO p.refs 0)
 TO:h.get? p.TO=some (tupO c 0)
 it:∀ j e,p.its[j]?=some e→h.IsListIter e.it e.l (if j < k then i+1 else i)
 l:∀ e∈p.its,h.IsList e.l e.xs.toArray
section
variable {prog:Program} {w:World} {Ar:Around} {E:Value→Shared→Prop} {s:Shared} {h h':Heap} {p:ZP} {f0 f1:Value} {i k:Nat} {c vals:List Value}
theorem ZP.Ok.zT (O:p.Ok):p.z≠p.TO:=fun q=>(List.nodup_cons.mp O.nd).1 (q▸List.mem_cons_self)
theorem ZP.Ok.zi (O:p.Ok) {e:ZE} (m:e∈p.its):p.z≠e.it:=fun q=>(List.nodup_cons.mp O.nd).1 (q▸List.mem_cons_of_mem _ (List.mem_map_of_mem m))
theorem ZP.Ok.Ti (O:p.Ok) {e:ZE} (m:e∈p.its):p.TO≠e.it:=fun q=>(List.nodup_cons.mp (List.nodup_cons.mp O.nd).2).1 (q▸List.mem_map_of_mem m)
theorem ZP.Ok.ii (O:p.Ok) {e e':ZE} {j j':Nat} (m:p.its[j]?=some e) (m':p.its[j']?=some e') (q:e.it=e'.it):j=j':=by
 have n:=(List.nodup_cons.mp (List.nodup_cons.mp O.nd).2).2
 have a:(p.its.map ZE.it)[j]?=some e.it:=by rw [List.getElem?_map,m]; rfl
 have b:(p.its.map ZE.it)[j']?=some e'.it:=by rw [List.getElem?_map,m']; rfl
 exact (List.getElem?_inj (List.getElem?_eq_some_iff.mp a).1 n).mp (a.trans (q▸b.symm))
theorem ZP.Ok.r (O:p.Ok) {b a:Addr} (hb:b∈p.rd) (ha:a∈p.wr):b≠a:=fun q=>O.dj b hb (q▸ha)
theorem ZP.mz:p.z∈p.wr:=List.mem_cons_self
theorem ZP.mT:p.TO∈p.wr:=List.mem_cons_of_mem _ List.mem_cons_self
theorem ZP.mi {e:ZE} (m:e∈p.its):e.it∈p.wr:=List.mem_cons_of_mem _ (List.mem_cons_of_mem _ (List.mem_map_of_mem m))
theorem ZP.rl {e:ZE} (m:e∈p.its):e.l∈p.rd:=List.mem_cons_of_mem _ (List.mem_map_of_mem m)
theorem ZP.rT:p.TI∈p.rd:=List.mem_cons_self
theorem ZP.At.onZ (A:p.At f0 i k c h) (O:p.Ok) (g:h'.get? p.z=some (zipO p.TI p.TO f1)) (hs:∀ b o,b≠p.z→h.get? b=some o→h'.get? b=some o):p.At f1 i k c h' :=
 ⟨g,hs _ _ (O.r ZP.rT ZP.mz) A.TI,hs _ _ (Ne.symm O.zT) A.TO,fun j e m=>(A.it j e m).at fun o=>hs _ o (Ne.symm (O.zi (List.mem_of_getElem? m))),fun e m=>(A.l e m).at fun o=>hs _ o (O.r (ZP.rl m) ZP.mz)⟩
theorem ZP.At.onT (A:p.At f0 i k c h) (O:p.Ok) {c':List Value} (g:h'.get? p.TO=some (tupO c' 0)) (hs:Heap.SameBut p.TO h h'):p.At f0 i k c' h' :=
 ⟨hs.extBut _ _ O.zT A.z,hs.extBut _ _ (O.r ZP.rT ZP.mT) A.TI,g,fun j e m=>(A.it j e m).at fun o=>hs.extBut _ o (Ne.symm (O.Ti (List.mem_of_getElem? m))),fun e m=>(A.l e m).at fun o=>hs.extBut _ o (O.r (ZP.rl m) ZP.mT)⟩
theorem ZP.At.onI (A:p.At f0 i k c h) (O:p.Ok) {e:ZE} (m:p.its[k]?=some e) (g:h'.IsListIter e.it e.l (i+1)) (hs:Heap.SameBut e.it h h'):p.At f0 i (k+1) c h':=by
 have m':=List.mem_of_getElem? m
 refine ⟨hs.extBut _ _ (O.zi m') A.z,hs.extBut _ _ (O.r ZP.rT (ZP.mi m')) A.TI,hs.extBut _ _ (O.Ti m') A.TO,fun j e2 m2=>?_,fun e2 m2=>(A.l e2 m2).at fun o=>hs.extBut _ o (O.r (ZP.rl m2) (ZP.mi m'))⟩
 by_cases q:j=k
 ·obtain rfl:e2=e:=Option.some.inj (m2.symm.trans (q▸m))
  rw [if_pos (q▸Nat.lt_succ_self _)]
  exact g
 ·have e1:(if j < k+1 then i+1 else i)=if j < k then i+1 else i:=by
   by_cases l:j < k
   ·rw [if_pos l,if_pos (Nat.lt_succ_of_lt l)]
   ·rw [if_neg l,if_neg (fun z=>q (Nat.le_antisymm (Nat.le_of_lt_succ z) (Nat.not_lt.mp l)))]
  rw [e1]
  exact (A.it j e2 m2).at fun o=>hs.extBut _ o fun z=>q (O.ii m2 m z)
theorem seq_set {T:Addr} {vs:List Value} {x:Value} {k:Nat} {Q:Unit→Shared→Prop} (hT:s.heap.get? T=some (tupO vs 0)) (hv:vs.length≤sizeLine)
  (h:∀ h',h'.get? T=some (tupO (vs.set k x) 0)→Heap.SameBut T s.heap h'→Q () { s with heap:=h' }):wpAny (model prog w) Ar (updateSeq T (·.setIfInBounds k x)) Q E s:=by
 refine wpAny_updateSeq hT rfl (h _ ?_ (Heap.SameBut.update ..)) (by simp; omega) (by simp; omega)
 rw [Heap.get?_update_self _ hT rfl]
 simp [Obj.mapSeq]
theorem forIn_zip {β:Type} {vs:List Value} {f:Value × Nat→β→Sem (ForInStep β)} {b:β} {Q:β→Shared→Prop} (I:Nat→Shared→Prop)
  (turn:∀ k v s (Q:ForInStep β→Shared→Prop),vs[k]?=some v→I k s→(∀ s',I (k+1) s'→Q (.yield b) s')→wpAny (model prog w) Ar (f (v,k) b) Q E s) :
  ∀ (r:List Value) (k:Nat) (s:Shared),k+r.length=vs.length→vs.drop k=r→I k s→(∀ s',I vs.length s'→Q b s')→wpAny (model prog w) Ar (forIn (r.zipIdx k) b f) Q E s
 | [],k,s,l,e,hi,q=>wpAny_pure (q s (l▸hi))
 | v::r,k,s,l,e,hi,q=>by
  rw [List.zipIdx_cons,List.forIn_cons]
  have hv:vs[k]?=some v:=by rw [← Nat.add_zero k,← List.getElem?_drop,e]; rfl
  exact wpAny_bind (turn k v s _ hv hi fun s' hi'=>forIn_zip I turn r (k+1) s' ((Nat.add_right_comm k 1 _).trans l) (by rw [← List.tail_drop,e]; rfl) hi' q)
def ZP.Mid (p:ZP) (i:Nat) (vals:List Value) (s₀:Shared) (k:Nat) (s:Shared):Prop:=∃ c h',s={ s₀ with heap:=h' }∧p.At .ellipsis i k c h'∧c.length=vals.length∧(∀ j,j < k→c[j]?=vals[j]?)∧Kept p.wr s₀.heap h'∧h'.objs.size=s₀.heap.objs.size
theorem ZP.At.sizeT (A:p.At f0 i k c h) (h1:c.length=vals.length) (h2:∀ j,j < vals.length→c[j]?=vals[j]?):c=vals:=List.ext_getElem? fun j=>by
 by_cases l:j < vals.length
 ·exact h2 j l
 ·rw [List.getElem?_eq_none (Nat.not_lt.mp l),List.getElem?_eq_none (h1▸Nat.not_lt.mp l)]
theorem ZP.item {Q:Value→Shared→Prop} (O:p.Ok) (A:p.At .none i 0 c s.heap) (hc:c.length=vals.length) (hz:vals.length≤sizeLine) (hv:vals.length=p.its.length) (hx:∀ (j:Nat) (e:ZE),p.its[j]?=some e→e.xs[i]?=vals[j]?) (hne:p.refs.toArray.isEmpty=false)
  (hQ:∀ h',p.At (rawInt s.heap.objs.size) (i+1) 0 vals h'→h'.get? s.heap.objs.size=some (tupO vals 0)→Kept p.wr s.heap h'→Q (.ref s.heap.objs.size) { s with heap:=h' }) :
  wpAny (model prog w) Ar (Builtin.«zip.__next__» ⟨[.ref p.z],[]⟩) (fun fin s'=>∃ v,fin=.done (.ret v)∧Q v s') E s:=by
 show wpAny _ _ (field (.ref p.z) 2 >>= _) _ _ _
 refine wpAny_bind (wpAny_field A.z rfl (x:=.bool false) rfl ?_)
 show wpAny _ _ (field (.ref p.z) 3 >>= _) _ _ _
 refine wpAny_bind (wpAny_field A.z rfl (x:=.ref p.TI) rfl ?_)
 refine wpAny_bind (wpAny_seqItems A.TI rfl ?_)
 dsimp only
 rw [hne]
 show wpAny _ _ (Builtin.SmallTypes.ownedTupleIsFree (.ref p.z) >>= _) _ _ _
 refine wpAny_bind ?_
 unfold Builtin.SmallTypes.ownedTupleIsFree
 refine wpAny_bind (wpAny_field A.z rfl (x:=.none) rfl (wpAny_pure ?_))
 simp only [if_true]
 refine wpAny_bind (wpAny_rule ?_)
 refine wpAny_bind (wpAny_field A.z rfl (x:=.ref p.TO) rfl ?_)
 refine wpAny_bind (wpAny_setField_rec A.z (by simp) fun h₁ hz₁ hs₁=>?_)
 have A₁:=A.onZ O (f1:=.ellipsis) hz₁ hs₁.extBut
 refine wpAny_bind (forIn_zip (vs:=p.refs) (p.Mid i vals s) (fun k v s' Q' hk hm q=>?_) p.refs 0 _ (Nat.zero_add _) rfl ⟨c,h₁,rfl,A₁,hc,fun j l=>absurd l (Nat.not_lt_zero j),fun b o n e=>hs₁.extBut b o (fun z=>n (z▸ZP.mz)) e,hs₁.1⟩ fun s' hm=>?_)
 ·obtain ⟨c',h',rfl,B,b1,b2,b3,b4⟩:=hm
  unfold ZP.refs at hk
  rw [List.getElem?_map] at hk
  refine onMap hk fun e me ev=>?_
  subst ev
  have m:=List.mem_of_getElem? me
  have hi:=B.it k e me
  rw [if_neg (Nat.lt_irrefl k)] at hi
  have hkl:k < vals.length:=hv▸(List.getElem?_eq_some_iff.mp me).1
  refine wpAny_bind (wpAny_onRaise ?_)
  show wpAny _ _ (Builtin.SmallTypes.nextOf (.ref e.it) >>= _) _ _ _
  refine wpAny_bind (wpAny_nextOf_list_item hi (B.l e m) (x:=vals[k]) (ag ((hx k e me).trans (List.getElem?_eq_getElem hkl))) fun h₂ hi₂ hs₂=>wpAny_pure ?_)
  have B₂:=B.onI O me hi₂ hs₂
  refine wpAny_bind (wpAny_seqItems B₂.TO rfl ?_)
  refine wpAny_bind (seq_set B₂.TO (b1▸hz) fun h₃ ht hs₃=>?_)
  refine wpAny_bind (wpAny_letGo (wpAny_pure (q _ ⟨c'.set k vals[k],h₃,rfl,B₂.onT O ht hs₃,by rw [List.length_set]; exact b1,fun j l=>?_,fun b o n e'=>hs₃.extBut b o (fun z=>n (z▸ZP.mT)) (hs₂.extBut b o (fun z=>n (z▸ZP.mi m)) (b3 b o n e')),(hs₃.1.trans hs₂.1).trans b4⟩)))
  by_cases z:k=j
  ·rw [← z,List.getElem?_set_self (b1▸hkl),List.getElem?_eq_getElem hkl]
  ·rw [List.getElem?_set_ne z]
   exact b2 j (Nat.lt_of_le_of_ne (Nat.le_of_lt_succ l) (Ne.symm z))
 ·obtain ⟨c',h',rfl,B,b1,b2,b3,b4⟩:=hm
  have hl:p.refs.length=vals.length:=(List.length_map ..).trans hv.symm
  obtain rfl:c'=vals:=B.sizeT b1 fun j l=>b2 j (hl▸l)
  refine wpAny_bind (wpAny_seqItems B.TO rfl ?_)
  refine wpAny_bind (wpAny_newTuple ?_)
  show wpAny _ _ (Builtin.SmallTypes.ownedTupleHandOut (.ref p.z) (.ref h'.objs.size) >>= _) _ _ _
  refine wpAny_bind ?_
  unfold Builtin.SmallTypes.ownedTupleHandOut
  have new:p.z≠h'.objs.size:=Nat.ne_of_lt (Heap.lt_size B.z)
  refine wpAny_bind (wpAny_setField_rec (Heap.get?_push_of_some _ B.z) (by simp) fun h₈ hz₉ hs₈=>?_)
  refine wpAny_setField_rec hz₉ (by simp) fun h₉ hz₁₀ hs₉=>?_
  have up:∀ b o,b≠p.z→h'.get? b=some o→h₉.get? b=some o:=fun b o n e=>hs₉.extBut _ _ n (hs₈.extBut _ _ n (Heap.get?_push_of_some _ e))
  refine wpAny_pure ⟨_,rfl,?_⟩
  show Q (.ref h'.objs.size) _
  have hT:h₉.get? h'.objs.size=some (tupO c' 0):=hs₉.extBut _ _ (Ne.symm new) (hs₈.extBut _ _ (Ne.symm new) (Heap.get?_push_size _ rfl))
  have B₉:=B.onZ O (f1:=rawInt h'.objs.size) hz₁₀ up
  rw [b4] at hT B₉ ⊢
  exact hQ h₉ ⟨B₉.z,B₉.TI,B₉.TO,fun j e m=>by have q:=B₉.it j e m; rw [if_pos (show j < p.refs.length by rw [hl,hv]; exact (List.getElem?_eq_some_iff.mp m).1)] at q; exact q,B₉.l⟩ hT fun b o n e=>up b o (fun z=>n (z▸ZP.mz)) (b3 b o n e)
end
end Mine
end
section
open PySem PySem.W PyProof.Rows
namespace Mine
theorem ne_code {T:String} (h:(T=="code")=false):Value.type T≠.type "code":=fun z=>by rw [Value.type.inj z] at h; exact nomatch h
section
variable {prog:Program} {w:World} {Ar:Around} {E:Value→Shared→Prop} {s:Shared} {h h':Heap} {p:ZP} {f0 f1:Value} {i k:Nat} {c vals:List Value}
theorem ZP.fin {Q:Fin→Shared→Prop} {e0:ZE} {r:List ZE} (hh:Ar.handled=none) (O:p.Ok) (A:p.At .none i 0 c s.heap) (hi:p.its=e0::r) (hx:e0.xs[i]?=none)
  (hE:∀ h' e,Kept p.wr s.heap h'→(∃ o,h'.get? e=some o∧o.cls=.type "StopIteration")→E (.ref e) { s with heap:=h' }) :
  wpAny (model prog w) Ar (Builtin.«zip.__next__» ⟨[.ref p.z],[]⟩) Q E s:=by
 have hr:p.refs=.ref e0.it::r.map fun e=>.ref e.it:=by unfold ZP.refs; rw [hi]; rfl
 have m:p.its[0]?=some e0:=by rw [hi]; rfl
 have hT:=A.TI
 rw [hr] at hT
 show wpAny _ _ (field (.ref p.z) 2 >>= _) _ _ _
 refine wpAny_bind (wpAny_field A.z rfl (x:=.bool false) rfl ?_)
 show wpAny _ _ (field (.ref p.z) 3 >>= _) _ _ _
 refine wpAny_bind (wpAny_field A.z rfl (x:=.ref p.TI) rfl ?_)
 refine wpAny_bind (wpAny_seqItems hT rfl ?_)
 show wpAny _ _ (Builtin.SmallTypes.ownedTupleIsFree (.ref p.z) >>= _) _ _ _
 refine wpAny_bind ?_
 unfold Builtin.SmallTypes.ownedTupleIsFree
 refine wpAny_bind (wpAny_field A.z rfl (x:=.none) rfl (wpAny_pure ?_))
 simp only [if_true]
 refine wpAny_bind (wpAny_rule ?_)
 refine wpAny_bind (wpAny_field A.z rfl (x:=.ref p.TO) rfl ?_)
 refine wpAny_bind (wpAny_setField_rec A.z (by simp) fun h₁ hz₁ hs₁=>?_)
 have A₁:=A.onZ O (f1:=.ellipsis) hz₁ hs₁.extBut
 refine wpAny_bind ?_
 rw [List.zipIdx_cons,List.forIn_cons]
 refine wpAny_bind (wpAny_bind (wpAny_onRaise ?_))
 show wpAny _ _ (Builtin.SmallTypes.nextOf (.ref e0.it) >>= _) _ _ _
 refine wpAny_bind (wpAny_nextOf_list_end hh (A₁.it 0 e0 m) (A₁.l e0 (List.mem_of_getElem? m)) (by simpa using hx) fun h₂ e hs₂ he=>?_)
 obtain ⟨oe,hoe,hce⟩:=he
 have hz₂:h₂.get? p.z=some (zipO p.TI p.TO .ellipsis):=hs₂ _ _ (O.zi (List.mem_of_getElem? m)) A₁.z
 have hez:e≠p.z:=fun q=>by subst q; rw [hz₂] at hoe; rw [← Option.some.inj hoe] at hce; exact absurd (Value.type.inj hce) (by decide)
 exact wpAny_setField_rec hz₂ (by simp) fun h₃ _ hs₃=>hE h₃ e (fun b o n q=>hs₃.extBut _ _ (fun z=>n (z▸ZP.mz)) (hs₂ _ _ (fun z=>n (z▸ZP.mi (List.mem_of_getElem? m))) (hs₁.extBut _ _ (fun z=>n (z▸ZP.mz)) q))) ⟨oe,hs₃.extBut _ _ hez hoe,hce⟩
theorem zip_type (A:p.At f0 i k c s.heap):s.TypeIs (.ref p.z) "zip":=⟨_,A.z,rfl⟩
theorem wk_zip {Z:Fr} {n:Nat} {vals:Nat→List Value} (hh:Z.Ar.handled=none) (O:p.Ok) (hz:Nat.ble p.its.length 1000=true) (hne:p.its.isEmpty=false) (hn:∀ e∈p.its,n≤e.xs.length) (h0:∀ e,p.its[0]?=some e→e.xs.length=n) (hv:∀ i,i < n→(vals i).length=p.its.length∧∀ (j:Nat) (e:ZE),p.its[j]?=some e→e.xs[i]?=(vals i)[j]?) :
  Wk Z.X Z.Ar p.z (p.wr++p.rd) p.wr n true (fun i=>Made (·=vals i)) (fun i h=>∃ c,c.length=p.its.length∧p.At .none i 0 c h) (fun i v h=>∃ T c,v=.ref T∧c.length=p.its.length∧p.At (rawInt T) (i+1) 0 c h):=by
 have hz:p.its.length≤sizeLine:=Nat.le_trans (Nat.ble_eq.mp hz) (by decide)
 obtain ⟨e0,r,hi⟩:∃ e0 r,p.its=e0::r:=by cases q:p.its with
  | nil=>rw [q] at hne; exact nomatch hne
  | cons a b=>exact ⟨a,b,rfl⟩
 have cd:∀ f0 i c h,p.At f0 i 0 c h→∀ b∈p.wr,∃ o,h.get? b=some o∧NotCode o:=fun f0 i c h A b m=>by
  rcases List.mem_cons.mp m with q | m
  ·exact ⟨_,q▸A.z,.inl (ne_code rfl)⟩
  ·rcases List.mem_cons.mp m with q | m
   ·exact ⟨_,q▸A.TO,.inl (ne_code rfl)⟩
   ·obtain ⟨e,me,q⟩:=List.mem_map.mp m
    obtain ⟨j,hj⟩:=List.mem_iff_getElem?.mp me
    obtain ⟨o,g,cc,_⟩:=A.it j e hj
    exact ⟨o,q▸g,.inl (cc▸ne_code rfl)⟩
 refine ⟨fun i h h' st kp=>?_,fun i s Q E hlt st q=>?_,fun target i v s Q E ht m q=>?_,fun s Q E st q=>?_,fun i h st=>?_,fun i v h m=>?_,fun s Q E st q=>st.elim fun c A=>wpAny_pyIter_zip A.2.z q⟩
 ·obtain ⟨c,hc,A⟩:=st
  have w':∀ b∈p.wr,∀ o,h.get? b=some o→h'.get? b=some o:=fun b m=>kp b (List.mem_append_left _ m)
  have r':∀ b∈p.rd,∀ o,h.get? b=some o→h'.get? b=some o:=fun b m=>kp b (List.mem_append_right _ m)
  exact ⟨c,hc,w' _ ZP.mz _ A.z,r' _ ZP.rT _ A.TI,w' _ ZP.mT _ A.TO,fun j e m=>(A.it j e m).at (w' _ (ZP.mi (List.mem_of_getElem? m))),fun e m=>(A.l e m).at (r' _ (ZP.rl m))⟩
 ·obtain ⟨c,hc,A⟩:=st
  obtain ⟨v1,v2⟩:=hv i hlt
  unfold pyNext
  exact wpAny_bind (wpAny_attempt (wpAny_callSpecial?_slot (name:=Str.ofString "__next__") (zip_type A) F.slot_zip_next (wpAny_call_entry F.slot_zip_next (zip_type A) F.entry_zip_next
   (ZP.item O A (hc.trans v1.symm) (v1▸hz) v1 v2 (by unfold ZP.refs; rw [hi]; rfl) fun h' a1 a2 a3=>wpAny_pure (q _ h' s.toks ⟨rfl,_,rfl,a2⟩ ⟨_,_,rfl,v1,a1⟩ a3)) (F.args_zip_next_1 _))))
 ·obtain ⟨T,c,rfl,hc,A⟩:=m
  obtain ⟨es,kk,ps,rfl⟩:=ht rfl
  exact wpAny_letOwnedTupleGo_zip A.z fun h' hz' hs'=>q h' ⟨c,hc,A.onZ O hz' hs'.extBut⟩ fun b o m e=>hs'.extBut _ _ (fun z=>m (z▸ZP.mz)) e
 ·obtain ⟨c,hc,A⟩:=st
  unfold pyNext
  refine wpAny_bind (wpAny_attempt (wpAny_callSpecial?_slot (name:=Str.ofString "__next__") (zip_type A) F.slot_zip_next (wpAny_call_entry F.slot_zip_next (zip_type A) F.entry_zip_next
   (ZP.fin hh O A hi (List.getElem?_eq_none (Nat.le_of_eq (h0 e0 (by rw [hi]; rfl)))) fun h' e hk he=>?_) (F.args_zip_next_1 _))))
  obtain ⟨o,ho,hc⟩:=he
  exact wpAny_bind (wpAny_isInstance (T:="StopIteration") (b:=true) ⟨o,ho,hc⟩ isSubtype_stop (wpAny_pure (q h' s.toks hk)))
 ·obtain ⟨c,hc,A⟩:=st
  exact cd _ _ c h A
 ·obtain ⟨T,c,rfl,hc,A⟩:=m
  exact cd _ _ c h A
end
end Mine
end
section
open PySem PySem.W PyProof.Rows
namespace Mine
section
variable {Z:Fr} {K:Addr→Prop} {xs ys zs:List PV} {s s':Shared} {Q:Value→Shared→Prop} {E:Value→Shared→Prop} {h h':Heap} {p:ZP}
theorem it_zip {n:Nat} {c:List Value} {tk:Nat} (V:Bs Z s) (hK:∀ a,Z.B a→K a) (O:p.Ok) (hz:Nat.ble p.its.length 1000=true) (hne:p.its.isEmpty=false) (hn:∀ e∈p.its,n≤e.xs.length) (h0:∀ e,p.its[0]?=some e→e.xs.length=n) (hxs:n=xs.length) (hc:c.length=p.its.length) (A:p.At .none 0 0 c h') (x:Ext s.heap h')
  (hw:∀ b∈p.wr,s.heap.objs.size≤b) (hT:s.heap.objs.size≤p.TI) (hl:∀ e∈p.its,K e.l)
  (hP:∀ (j:Nat) (q:PV),xs[j]?=some q→∃ ps,q=.tup ps∧Z.RepL s.heap ps (p.its.map fun e=>e.xs.getD j .none)) (h:ItGoal Z K true s xs Q):Q (.ref p.z) { s with heap:=h',toks:=tk }:=by
 have hN:=V.K.size _ V.g
 have nw:∀ b,s.heap.objs.size≤b→s.heap.get? b=none∧Z.X.N≤b:=fun b l=>⟨get_ge l,Nat.le_trans hN l⟩
 refine h _ _ _ _ (V.ext x) (iter_of (Z:=Z) (s₁:={ s with heap:=h',toks:=tk }) V (wk_zip (vals:=fun j=>p.its.map fun e=>e.xs.getD j .none) V.R.hh O hz hne hn h0 fun i l=>⟨List.length_map ..,fun j e m=>?_⟩) hxs (V.ext x (tk:=tk)) ⟨c,hc,A⟩ (fun b m=>nw b (hw b m)) (fun b m=>?_) hK fun j q v h1 h2 e pv B₁ k new=>?_)
 ·rw [List.getElem?_map,m]
  have l':i < e.xs.length:=Nat.lt_of_lt_of_le l (hn e (List.mem_of_getElem? m))
  rw [List.getElem?_eq_getElem l',Option.map_some,List.getD_eq_getElem?_getD,List.getElem?_eq_getElem l']; rfl
 ·rcases List.mem_append.mp m with m | m
  ·exact .inl m
  ·rcases List.mem_cons.mp m with q | m
   ·exact .inr ⟨hK _ (V.fresh _ (q▸(nw _ hT).2) (q▸(nw _ hT).1)),_,q▸A.TI⟩
   ·obtain ⟨e,me,q⟩:=List.mem_map.mp m
    obtain ⟨o,g,_⟩:=A.l e me
    exact .inr ⟨q▸hl e me,o,q▸g⟩
 ·obtain ⟨rfl,vs,rfl,g⟩:=pv
  obtain ⟨ps,rfl,r⟩:=hP j q e
  exact Rep.mkTup new g (Mine.RepL.move k r)
def zip2 (xs ys:List PV):List PV:=(xs.zip ys).map fun a=>.tup [a.1,a.2]
theorem get_zip {α β:Type}:∀ {xs:List α} {ys:List β} {i:Nat} {p:α × β},(xs.zip ys)[i]?=some p→xs[i]?=some p.1∧ys[i]?=some p.2
 | [],_,_,_,h=>no h
 | _::_,[],_,_,h=>no h
 | x::xs,y::ys,0,p,h=>Option.some.inj h▸⟨rfl,rfl⟩
 | x::xs,y::ys,i+1,p,h=>get_zip (xs:=xs) (ys:=ys) (i:=i) h
theorem getD_rep {vs:List Value} {j:Nat} {q:PV} (r:Z.RepL h xs vs) (e:xs[j]?=some q):Z.Rep h q (vs.getD j .none):=(Mine.RepL.get r e).elim fun v g=>by
 rw [List.getD_eq_getElem?_getD,g.1]; exact g.2
def newZ (n:Nat) (ls:List (Addr × List Value)):ZP:=⟨n+(ls.length+2),n+ls.length,n+(ls.length+1),ls.zipIdx.map fun x=>⟨n+x.2,x.1.1,x.1.2⟩⟩
theorem off_nodup {n:Nat} {l:List Nat} (h:l.Nodup):(l.map (n+·)).Nodup:=List.Pairwise.map _ (fun a b q e=>q (Nat.add_left_cancel e)) h
theorem off_mem {n i:Nat} {l:List Nat} (h:i ∉ l):n+i ∉ l.map (n+·):=fun m=>(List.mem_map.mp m).elim fun j q=>h (Nat.add_left_cancel q.2▸q.1)
theorem off_lt {n i:Nat} {l:List Nat} (h:i < n):i ∉ l.map (n+·):=fun m=>(List.mem_map.mp m).elim fun j q=>absurd h (Nat.not_lt.mpr (q.2▸Nat.le_add_right n j))
theorem off_le {n b:Nat} {l:List Nat} (h:b∈l.map (n+·)):n≤b:=(List.mem_map.mp h).elim fun j q=>q.2▸Nat.le_add_right n j
theorem zok {n t:Nat} {l:List Nat} (hw:p.wr=l.map (n+·)) (hT:p.TI=n+t) (nd:l.Nodup) (nt:t ∉ l) (hl:∀ e∈p.its,e.l < n):p.Ok :=
 ⟨hw▸off_nodup nd,fun b m=>by
  rw [hw]
  rcases List.mem_cons.mp m with q | m
  ·exact q▸hT▸off_mem nt
  ·obtain ⟨e,me,q⟩:=List.mem_map.mp m
   exact q▸off_lt (hl e me)⟩
theorem zip_two {l1 l2:Addr} {vs ws:List Value} {n m:Nat} (V:Bs Z s) (hK:∀ a,Z.B a→K a) (g1:s.heap.get? l1=some (lstO vs n)) (g2:s.heap.get? l2=some (lstO ws m)) (k1:K l1) (k2:K l2) (r1:Z.RepL s.heap xs vs) (r2:Z.RepL s.heap ys ws) (e:Nat.ble xs.length ys.length=true)
  (h:ItGoal Z K true s (zip2 xs ys) Q):wpAny Z.X.M Z.Ar (call (.type "zip") [.ref l1,.ref l2]) (fun v s'=>wpAny Z.X.M Z.Ar (pyIter v) Q E s') E s:=by
 have e:=Nat.ble_eq.mp e
 refine call_zip_2 (lst_is g1) (lst_is g2) fun h' c1 c2 c3 c4 c5 c6 c7=>wpAny_pyIter_zip c1 ?_
 have all:∀ {P:ZE→Prop},P ⟨s.heap.objs.size+0,l1,vs⟩→P ⟨s.heap.objs.size+1,l2,ws⟩→∀ e∈(newZ s.heap.objs.size [(l1,vs),(l2,ws)]).its,P e:=fun a b e m=>(List.mem_cons.mp m).elim (fun q=>q▸a) fun m=>List.mem_singleton.mp m▸b
 refine it_zip (p:=newZ s.heap.objs.size [(l1,vs),(l2,ws)]) (n:=xs.length) (c:=[.none,.none]) (tk:=s.toks) V hK (zok (n:=s.heap.objs.size) (t:=2) (l:=[4,3,0,1]) rfl rfl (by decide) (by decide) (all (Heap.lt_size g1) (Heap.lt_size g2))) rfl rfl (all (Nat.le_of_eq r1.len.symm) (r2.len▸e)) (fun e' q=>Option.some.inj q▸r1.len) (by unfold zip2; rw [List.length_map,List.length_zip,Nat.min_eq_left e]) rfl
  ⟨c1,c2,c3,fun j e m=>?_,all ⟨_,c7 _ _ g1,rfl,_,rfl⟩ ⟨_,c7 _ _ g2,rfl,_,rfl⟩⟩ c7 (fun b m=>off_le (l:=[4,3,0,1]) m) (Nat.le_add_right _ 2) (all k1 k2) (fun j q eq=>?_) h
 ·rw [if_neg (Nat.not_lt_zero j)]
  match j,m with
  | 0,m=>exact Option.some.inj m▸c4
  | 1,m=>exact Option.some.inj m▸c5
  | j+2,m=>exact no m
 ·unfold zip2 at eq
  rw [List.getElem?_map] at eq
  refine onMap eq fun a e1 e2=>?_
  obtain ⟨a1,a2⟩:=get_zip e1
  exact ⟨_,e2.symm,RepL.cons (getD_rep r1 a1) (RepL.cons (getD_rep r2 a2) RepL.nil)⟩
end
end Mine
end
section
open PySem PySem.W PyProof.Rows
namespace Mine
section
variable {prog:Program} {w:World} {Ar:Around} {E:Value→Shared→Prop} {s:Shared}
theorem draw_walks {I:Addr} {fp:List Addr} {n:Nat} {items:List Value} {S:Nat→Heap→Prop} {P:Nat→Value→Prop} (W:Walks prog w Ar I fp [I] n P S) (hP:∀ i v,P i v→items[i]?=some v) (hn:n=items.length) :
  ∀ (k i:Nat) (s:Shared) (Q:List Value→Shared→Prop),S i s.heap→i+k=n→(∀ h' tk,S n h'→Heap.ExtBut I s.heap h'→Q (items.drop i) { s with heap:=h',toks:=tk })→wpAny (model prog w) Ar (draw (.ref I) k) Q E s
 | 0,i,s,Q,st,e,q=>by
  have q:=q s.heap s.toks (e▸st) fun _ _ _ e=>e
  rw [List.drop_eq_nil_of_le (Nat.le_of_eq (hn▸e.symm))] at q
  exact wpAny_pure q
 | k+1,i,s,Q,st,e,q=>by
  show wpAny _ _ (pyNext (.ref I) >>= _) Q E s
  have hi:i < n:=e▸Nat.lt_add_of_pos_right (Nat.succ_pos k)
  refine wpAny_bind (W.item i s _ _ hi st fun v h₁ tk₁ hv st₁ hk₁=>wpAny_bind (wpAny_holding (draw_walks W hP hn k (i+1) _ _ st₁ ((Nat.add_right_comm i 1 k).trans e) fun h₂ tk₂ st₂ hk₂=>wpAny_pure ?_)))
  have q:=q h₂ tk₂ st₂ fun b o hb e=>hk₂ b o hb (hk₁ b o (fun m=>hb (List.mem_singleton.mp m)) e)
  have hlt:i < items.length:=hn▸hi
  have hv:=hP i v hv
  rw [List.getElem?_eq_getElem hlt] at hv
  rw [List.drop_eq_getElem_cons hlt,Option.some.inj hv] at q
  exact q
theorem unpack_rule (hh:Ar.handled=none) {v:Value} {items:List Value} (hv:∃ a,v=.ref a∧(s.heap.IsTuple a items.toArray∨s.heap.IsList a items.toArray)) {Q:List Value→Shared→Prop}
  (hQ:∀ h' tk,Ext s.heap h'→Q items { s with heap:=h',toks:=tk }):wpAny (model prog w) Ar (unpackItems v items.length none) Q E s:=by
 obtain ⟨a,rfl,hv⟩:=hv
 have new:∀ b o,s.heap.get? b=some o→b≠s.heap.objs.size:=fun b o e=>Nat.ne_of_lt (Heap.lt_size e)
 have main:∀ (o:Obj) (fp:List Addr) (S:Nat→Heap→Prop),Walks prog w Ar s.heap.objs.size fp [s.heap.objs.size] items.toArray.size (fun i v=>items.toArray[i]?=some v) S→S 0 (s.heap.push o) →
   wpAny (model prog w) Ar (do
    let items' ← holding [.ref s.heap.objs.size] (draw (.ref s.heap.objs.size) items.length)
    if items'.length < items.length then
     rule "unpack.too-few"; raiseError "ValueError" s!"not enough values to unpack (expected {items.length}, got {items'.length})"
    if (← holding items' (pyNext (.ref s.heap.objs.size))).isSome then
     rule "unpack.too-many"; raiseError "ValueError" s!"too many values to unpack (expected {items.length})"
    return items') Q E { s with heap:=s.heap.push o }:=by
  intro o fp S W st
  refine wpAny_bind (wpAny_holding (draw_walks W (fun i v e=>by simpa using e) List.size_toArray items.length 0 _ _ st ((Nat.zero_add _).trans List.size_toArray.symm) fun h₁ tk₁ st₁ hk₁=>?_))
  rw [List.drop_zero,if_neg (Nat.lt_irrefl _)]
  exact wpAny_bind (wpAny_holding (W.done _ _ _ st₁ fun h₂ tk₂ hk₂=>wpAny_pure (hQ h₂ tk₂ fun b o e=>hk₂ b o (fun m=>new b o e (List.mem_singleton.mp m)) (hk₁ b o (new b o e) (Heap.get?_push_of_some _ e)))))
 unfold unpackItems notIterableAtAll
 refine wpAny_bind ?_
 rcases hv with hv | hv
 ·refine wpAny_bind (wpAny_specialOf hv.typeIs F.slot_tuple_iter.lookup (wpAny_pure (wpAny_bind (wpAny_holding (wpAny_pyIter_tuple hv ?_)))))
  obtain ⟨o,ho,_⟩:=id hv
  exact main _ _ (fun i h=>h.IsTupleIter s.heap.objs.size a i∧h.IsTuple a items.toArray) (Walks.tuple (prog:=prog) (w:=w) hh s.heap.objs.size a (new a o ho) items.toArray) ⟨⟨_,Heap.get?_push_size _ rfl,rfl,rfl⟩,hv.push _⟩
 ·refine wpAny_bind (wpAny_specialOf hv.typeIs slot_list_iter.lookup (wpAny_pure (wpAny_bind (wpAny_holding (wpAny_pyIter_list hv ?_)))))
  obtain ⟨o,ho,_⟩:=id hv
  exact main _ _ (fun i h=>h.IsListIter s.heap.objs.size a i∧h.IsList a items.toArray) (Walks.list (prog:=prog) (w:=w) hh s.heap.objs.size a (new a o ho) items.toArray) ⟨⟨_,Heap.get?_push_size _ rfl,rfl,rfl⟩,hv.push _⟩
end
structure Tg where
 i:Nat
 x:Str
 p:Pos
def Tg.e (t:Tg):Expr:=.Name t.x t.p
noncomputable def Tg.ok (sc:SC) (t:Tg):Bool:=isTo sc t.i t.x
noncomputable def setL:List Tg→List PV→List Slot→Option (List Slot)
 | [],ps,σ=>bif ps.isEmpty then some σ else none
 | t::ts,ps,σ=>List.casesOn ps none fun p ps=>setL ts ps (σ.set t.i (.val p))
structure SP (sc:SC) where
 e:Expr
 tp:Bool
 ts:List Tg
 bind:PV→List Slot→Option (List Slot)
 ht:tp=true→∃ es k ps,e=.Tuple es k ps
 ok:∀ {Z:Fr} {σ σ':List Slot} {ws:Nat→Option Value} {s:Shared} {p:PV} {v:Value} {Q:Unit→Shared→Prop} {E:Value→Shared→Prop},Dy Z σ ws s→EnvOk Z.env sc Z.ls→(∀ t∈ts,t.i < Z.wr)→Z.Rep s.heap p v→bind p σ=some σ' →
  (∀ ws' s',Stp Z.X Z.K s s'→Dy Z σ' ws' s'→Q () s')→wpAny Z.X.M Z.Ar (assign e Z.env v) Q E s
section
variable {sc:SC} {Z:Fr} {σ σ':List Slot} {ws:Nat→Option Value} {s s':Shared} {E:Value→Shared→Prop} {Q:Unit→Shared→Prop} {p:PV} {v:Value}
noncomputable def SP.one (t:Tg) (h:t.ok sc=true):SP sc:=⟨t.e,false,[t],fun p σ=>some (σ.set t.i (.val p)),nofun,
 fun D EO hw r e q=>wpAny_assign_Name (storeV D EO h (hw t List.mem_cons_self) r fun ws' s' x D'=>q ws' s' x (Option.some.inj e▸D'))⟩
theorem tos_each {env:Env}:∀ {ts:List Tg},(assignEach (ts.map Tg.e) env).findIdx? (·.1)=none∧(assignEach (ts.map Tg.e) env).length=ts.length
 | []=>⟨rfl,rfl⟩
 | t::ts=>by
  have h:=tos_each (env:=env) (ts:=ts)
  have e1:assignEach ((t::ts).map Tg.e) env=(false,assign t.e env)::assignEach (ts.map Tg.e) env:=rfl
  rw [e1]
  exact ⟨by rw [List.findIdx?_cons,h.1]; rfl,congrArg (·+1) h.2⟩
theorem setL_len:∀ {ts:List Tg} {ps:List PV} {σ σ':List Slot},setL ts ps σ=some σ'→ts.length=ps.length
 | [],[],_,_,_=>rfl
 | [],_::_,_,_,h=>no h
 | _::_,[],_,_,h=>no h
 | t::ts,p::ps,σ,σ',h=>congrArg (·+1) (setL_len (ts:=ts) h)
theorem setMany (EO:EnvOk Z.env sc Z.ls):∀ (ts:List Tg) (ps:List PV) (vs:List Value) (σ:List Slot) (ws:Nat→Option Value) (s:Shared),ts.all (Tg.ok sc)=true→(∀ t∈ts,t.i < Z.wr)→Dy Z σ ws s→setL ts ps σ=some σ'→Z.RepL s.heap ps vs →
   (∀ ws' s',Stp Z.X Z.K s s'→Dy Z σ' ws' s'→Q () s')→wpAny Z.X.M Z.Ar (assignInOrder ((assignEach (ts.map Tg.e) Z.env).map (·.2)) vs) Q E s
 | [],[],vs,σ,ws,s,_,_,D,e,r,q=>by
  obtain rfl:vs=[]:=r
  exact wpAny_pure (q ws s .refl (Option.some.inj e▸D))
 | t::ts,p::ps,vs,σ,ws,s,ho,hw,D,e,r,q=>by
  obtain ⟨v,vs,rfl,r1,r2⟩:=r
  have ho:=both (a:=t.ok sc) (b:=ts.all (Tg.ok sc)) ho
  show wpAny _ _ (do holding vs (assign t.e Z.env v); assignInOrder ((assignEach (ts.map Tg.e) Z.env).map (·.2)) vs) Q E s
  exact wpAny_bind (wpAny_holding (wpAny_assign_Name (storeV D EO ho.1 (hw t List.mem_cons_self) r1 fun ws₁ s₁ x₁ D₁=>setMany EO ts ps vs _ ws₁ s₁ ho.2 (fun t m=>hw t (List.mem_cons_of_mem _ m)) D₁ e (Fr.RepL.stpK r2 D x₁) fun ws₂ s₂ x₂ D₂=>q ws₂ s₂ (x₁.trans x₂) D₂)))
 | [],_::_,_,_,_,_,_,_,_,e,_,_=>no e
 | _::_,[],_,_,_,_,_,_,_,e,_,_=>no e
theorem unpackTo (D:Dy Z σ ws s) (EO:EnvOk Z.env sc Z.ls) {ts:List Tg} (ho:ts.all (Tg.ok sc)=true) (hw:∀ t∈ts,t.i < Z.wr) {ps:List PV} (e:setL ts ps σ=some σ') (hv:∃ a vs,v=.ref a∧(s.heap.IsTuple a vs.toArray∨s.heap.IsList a vs.toArray)∧Z.RepL s.heap ps vs)
  (q:∀ ws' s',Stp Z.X Z.K s s'→Dy Z σ' ws' s'→Q () s'):wpAny Z.X.M Z.Ar (unpack v (assignEach (ts.map Tg.e) Z.env)) Q E s:=by
 obtain ⟨a,vs,rfl,ha,r⟩:=hv
 unfold unpack
 rw [tos_each.1,tos_each.2,setL_len e,← r.len]
 refine wpAny_bind (wpAny_holding (unpack_rule D.R.hh ⟨a,rfl,ha⟩ fun h' tk hk=>?_))
 have x:Stp Z.X Z.X.V s { s with heap:=h',toks:=tk }:=D.toBs.ext hk
 exact setMany EO ts ps vs σ ws _ ho hw (D.step x) e (r.ext hk) fun ws₂ s₂ x₂ D₂=>q ws₂ s₂ (x.toK.trans x₂) D₂
noncomputable def SP.many (ts:List Tg) (k:Nat) (pp:Pos) (h:ts.all (Tg.ok sc)=true):SP sc:=⟨.Tuple (ts.map Tg.e) k pp,true,ts,fun p σ=>p.tup?.bind fun ps=>setL ts ps σ,fun _=>⟨_,_,_,rfl⟩,
 fun {Z σ σ' ws s p v Q E} D EO hw r e q=>onBind e fun ps e1 e=>by
  rw [arm_assign_Tuple]
  refine wpAny_bind (wpAny_standAt (unpackTo D EO h hw e ?_ q))
  rw [PV.is_tup e1] at r
  exact Mine.Rep.onTup r (M:=fun v=>∃ a vs,v=.ref a∧(s.heap.IsTuple a vs.toArray∨s.heap.IsList a vs.toArray)∧Z.RepL s.heap ps vs) fun a n vs _ g rl=>⟨a,vs,rfl,.inl (tup_is g),rl⟩⟩
end
end Mine
end
section
open PySem PySem.W PyProof.Rows
namespace Mine
structure SI (sc:SC) where
 e:Expr
 need:Bool
 ev:Fns→List Slot→Option (List PV)
 pl:Pl e
 ok:∀ {Z:Fr} {σ:List Slot} {ws:Nat→Option Value} {s:Shared} {xs:List PV},Ev Z sc σ ws s→ev Z.Φ σ=some xs→∀ (K:Addr→Prop) (tp:Bool),(∀ a,Z.B a→K a)→(need=true→tp=true)→GetsIt Z K s tp xs (eval e Z.env)
section
variable {sc:SC} {Z:Fr} {σ:List Slot} {ws:Nat→Option Value} {s s':Shared} {Q:Value→Shared→Prop} {E:Value→Shared→Prop}
noncomputable def SI.lst (x:SE sc):SI sc:=⟨x.e,false,fun Φ σ=>(x.ev Φ σ).bind PV.lst?,x.pl,
 fun {Z σ ws s xs} V e K tp hK _ Q E h=>onBind e fun p e1 e2=>x.go V e1 fun v s' st V' r=>r.lst e2 (M:=fun v=>wpAny Z.X.M Z.Ar (pyIter v) Q E s') fun a n vs b g rl=>it_lst V'.toBs hK g (hK a b) rl (h.after st)⟩
theorem ty_call {x:Str} {T:String} {as:List (SE sc)} {ps:List PV} {p1 p:Pos} (V:Ev Z sc σ ws s) (hg:isGlob sc x=true) (hx:x∈bltNames) (hb:bootBuiltins x=some (.type T)) (e:evL Z.Φ σ as=some ps)
  (k:∀ vs s₁,Stp Z.X Z.X.V s s₁→Ev Z sc σ ws s₁→Z.RepL s₁.heap ps vs→wpAny Z.X.M Z.Ar (call (.type T) vs) Q E s₁):wpAny Z.X.M Z.Ar (eval (.Call (.Name x p1) (exprs as) [] p) Z.env) Q E s :=
 wpAny_Call_NameR (blt_name V hg hx hb (PySem.callWith_type (no_stars as) (args_call (evL_ok V e k))))
theorem Pl.call {f:Expr} {as:List Expr} {p:Pos}:Pl (.Call f as [] p):=⟨fun _ _=>rfl,fun op=>by cases op <;> rfl,fun _ _=>rfl⟩
noncomputable def SI.range1 (b:SE sc) (p1 p:Pos) (hg:isGlob sc "range"=true):SI sc:=⟨.Call (.Name "range" p1) (exprs [b]) [] p,false,fun Φ σ=>(b.ev Φ σ).bind fun q=>q.int?.bind fun n=>bif sm2 n then some (ranges 0 n) else none,.call,
 fun {Z σ ws s xs} V e K tp hK _ Q E h=>onBind e fun q e1 e=>onBind e fun n e2 e=>by
  cases hc:sm2 n with
  | false=>rw [hc] at e; exact no e
  | true =>
   rw [hc] at e
   obtain rfl:=Option.some.inj e
   refine ty_call (T:="range") (ps:=[q]) V hg (by decide +kernel) (by decide +kernel) (by unfold evL; rw [e1]; rfl) fun vs s₁ x₁ V₁ rl=>?_
   obtain ⟨v,_,rfl,r,rfl⟩:=rl
   obtain ⟨t,rfl⟩:=scI.rd r e2
   have y:=V₁.toBs.push (K:=Z.X.V) (g:=s₁.gens.size) (tk:=s₁.toks+1+1) (o:={ cls:=.type "range",data:=.fields #[.int 0 s₁.toks,.int n t,.int 1 (s₁.toks+1)] })
   exact call_range_1 (it_range (V₁.step y).toBs hK (IsRange.new _ _ _ _ _ _ _) (by decide +kernel) hc (h.after (x₁.trans y)))⟩
noncomputable def SI.range2 (a b:SE sc) (p1 p:Pos) (hg:isGlob sc "range"=true):SI sc:=⟨.Call (.Name "range" p1) (exprs [a,b]) [] p,false,fun Φ σ=>(a.ev Φ σ).bind fun r=>(b.ev Φ σ).bind fun q=>r.int?.bind fun m=>q.int?.bind fun n=>bif sm2 m&&sm2 n then some (ranges m n) else none,.call,
 fun {Z σ ws s xs} V e K tp hK _ Q E h=>onBind e fun r e0 e=>onBind e fun q e1 e=>onBind e fun m e2 e=>onBind e fun n e3 e=>by
  cases hc:sm2 m&&sm2 n with
  | false=>rw [hc] at e; exact no e
  | true =>
   rw [hc] at e
   obtain rfl:=Option.some.inj e
   refine ty_call (T:="range") (ps:=[r,q]) V hg (by decide +kernel) (by decide +kernel) (by unfold evL evL evL; rw [e0,e1]; rfl) fun vs s₁ x₁ V₁ rl=>?_
   obtain ⟨v,_,rfl,r1,w,_,rfl,r2,rfl⟩:=rl
   obtain ⟨t,rfl⟩:=scI.rd r1 e2
   obtain ⟨u,rfl⟩:=scI.rd r2 e3
   have y:=V₁.toBs.push (K:=Z.X.V) (g:=s₁.gens.size) (tk:=s₁.toks+1) (o:={ cls:=.type "range",data:=.fields #[.int m t,.int n u,.int 1 s₁.toks] })
   exact call_range_2 (it_range (V₁.step y).toBs hK (IsRange.new _ _ _ _ _ _ _) (both hc).1 (both hc).2 (h.after (x₁.trans y)))⟩
noncomputable def SI.rev (x:SE sc) (p1 p:Pos) (hg:isGlob sc "reversed"=true):SI sc:=⟨.Call (.Name "reversed" p1) (exprs [x]) [] p,false,fun Φ σ=>(x.ev Φ σ).bind fun q=>q.lst?.map List.reverse,.call,
 fun {Z σ ws s xs} V e K tp hK _ Q E h=>onBind e fun q e1 e=>onMap e fun ys e2 e=>by
  subst e
  refine ty_call (T:="reversed") (ps:=[q]) V hg (by decide +kernel) (by decide +kernel) (by unfold evL; rw [e1]; rfl) fun vs s₁ x₁ V₁ rl=>?_
  obtain ⟨v,_,rfl,r,rfl⟩:=rl
  exact Fr.Rep.lst r e2 (M:=fun v=>wpAny Z.X.M Z.Ar (call (.type "reversed") [v]) (fun v s'=>wpAny Z.X.M Z.Ar (pyIter v) Q E s') E s₁) fun a n us b g ru=>it_rev V₁.toBs hK g (hK a b) ru (h.after x₁)⟩
noncomputable def SI.enum (x:SE sc) (p1 p:Pos) (hg:isGlob sc "enumerate"=true):SI sc:=⟨.Call (.Name "enumerate" p1) (exprs [x]) [] p,true,fun Φ σ=>(x.ev Φ σ).bind fun q=>q.lst?.map (enumL 0),.call,
 fun {Z σ ws s xs} V e K tp hK ht Q E h=>onBind e fun q e1 e=>onMap e fun ys e2 e=>by
  subst e
  obtain rfl:=ht rfl
  refine ty_call (T:="enumerate") (ps:=[q]) V hg (by decide +kernel) (by decide +kernel) (by unfold evL; rw [e1]; rfl) fun vs s₁ x₁ V₁ rl=>?_
  obtain ⟨v,_,rfl,r,rfl⟩:=rl
  exact Fr.Rep.lst r e2 (M:=fun v=>wpAny Z.X.M Z.Ar (call (.type "enumerate") [v]) (fun v s'=>wpAny Z.X.M Z.Ar (pyIter v) Q E s') E s₁) fun a n us b g ru=>enum_lst V₁.toBs hK g (hK a b) ru (h.after x₁)⟩
noncomputable def SI.zip2 (x y:SE sc) (p1 p:Pos) (hg:isGlob sc "zip"=true):SI sc:=⟨.Call (.Name "zip" p1) (exprs [x,y]) [] p,true,fun Φ σ=>(x.ev Φ σ).bind fun q=>(y.ev Φ σ).bind fun r=>q.lst?.bind fun xs=>r.lst?.bind fun ys=>bif Nat.ble xs.length ys.length then some (Mine.zip2 xs ys) else none,.call,
 fun {Z σ ws s xs} V e K tp hK ht Q E h=>onBind e fun q e1 e=>onBind e fun r e2 e=>onBind e fun us e3 e=>onBind e fun vs e4 e=>by
  cases hc:Nat.ble us.length vs.length with
  | false=>rw [hc] at e; exact no e
  | true =>
   rw [hc] at e
   obtain rfl:=Option.some.inj e
   obtain rfl:=ht rfl
   refine ty_call (T:="zip") (ps:=[q,r]) V hg (by decide +kernel) (by decide +kernel) (by unfold evL evL evL; rw [e1,e2]; rfl) fun vs s₁ x₁ V₁ rl=>?_
   obtain ⟨v,_,rfl,r1,w,_,rfl,r2,rfl⟩:=rl
   exact Fr.Rep.lst r1 e3 (M:=fun v=>wpAny Z.X.M Z.Ar (call (.type "zip") [v,w]) (fun v s'=>wpAny Z.X.M Z.Ar (pyIter v) Q E s') E s₁) fun a n _ b g ru=>Fr.Rep.lst r2 e4 (M:=fun w=>wpAny Z.X.M Z.Ar (call (.type "zip") [.ref a,w]) (fun v s'=>wpAny Z.X.M Z.Ar (pyIter v) Q E s') E s₁) fun a' n' _ b' g' ru' =>
    zip_two V₁.toBs hK g g' (hK a b) (hK a' b') ru ru' hc (h.after x₁)⟩
end
end Mine
end
section
open PySem PySem.W PyProof.Rows
namespace Mine
theorem lookup_of_mem {α:Type}:∀ {l:List (Str × α)} {x:Str} {k:α},(l.map (·.1)).Nodup→(x,k)∈l→l.lookup x=some k
 | (y,j)::r,x,k,hn,hm=>by
  have ⟨h1,h2⟩:=List.nodup_cons.mp (show (y::r.map (·.1)).Nodup from hn)
  rw [List.lookup_cons]
  cases e:x==y with
  | true =>
   rcases List.mem_cons.mp hm with q | q
   ·exact congrArg (fun z:Str × α=>some z.2) q.symm
   ·exact absurd (List.mem_map_of_mem (f:=(·.1)) q) (eq_of_beq e▸h1)
  | false =>
   rcases List.mem_cons.mp hm with q | q
   ·rw [show x=y from congrArg (·.1) q,beq_self_eq_true] at e; exact nomatch e
   ·exact lookup_of_mem h2 q
def relabelK (N:List (Str × NameKind)) (x:Str) (k:NameKind):NameKind:=if (k==.free&&N.lookup x==some .cell) then .cell else k
def relabelN (N names:List (Str × NameKind)):List (Str × NameKind):=names.map fun (n,k)=>(n,relabelK N n k)
theorem lookup_relabelN (N:List (Str × NameKind)) (x:Str):∀ (names:List (Str × NameKind)),(relabelN N names).lookup x=(names.lookup x).map (relabelK N x)
 | []=>rfl
 | (y,j)::r=>by
  show List.lookup x ((y,relabelK N y j)::relabelN N r)=_
  rw [List.lookup_cons,List.lookup_cons]
  cases e:x==y with
  | true=>rw [eq_of_beq e]; rfl
  | false=>exact lookup_relabelN N x r
theorem cells_append (r:List (Str × NameKind)):∀ (n:Nat) (acc:List (Str × Addr)),cellsFrom n r acc=cellsFrom n r []++acc:=by
 induction r with
 | nil=>intro n acc; rfl
 | cons p r ih =>
  intro n acc
  obtain ⟨x,k⟩:=p
  unfold cellsFrom
  cases k==NameKind.cell with
  | true =>
   show cellsFrom (n+1) r ((x,n)::acc)=cellsFrom (n+1) r [(x,n)]++acc
   rw [ih,ih (n+1) [(x,n)],List.append_assoc]; rfl
  | false=>exact ih n acc
theorem cells_some (x:Str) (r:List (Str × NameKind)):∀ (n:Nat) (acc:List (Str × Addr)),((x,NameKind.cell)∈r∨(acc.lookup x).isSome=true)→((cellsFrom n r acc).lookup x).isSome=true:=by
 induction r with
 | nil=>intro n acc h; exact h.elim (fun q=>nomatch q) id
 | cons p r ih =>
  intro n acc h
  obtain ⟨y,k⟩:=p
  unfold cellsFrom
  cases hk:k==NameKind.cell with
  | true =>
   refine ih (n+1) ((y,n)::acc) ?_
   rw [List.lookup_cons]
   cases e:x==y with
   | true=>exact .inr rfl
   | false=>exact h.imp (fun q=>(List.mem_cons.mp q).resolve_left fun q=>by rw [show x=y from congrArg (·.1) q,beq_self_eq_true] at e; exact nomatch e) id
  | false=>exact ih n acc (h.imp (fun q=>(List.mem_cons.mp q).resolve_left fun q=>by rw [← show NameKind.cell=k from congrArg (·.2) q] at hk; exact nomatch hk) id)
theorem cells_names {x:Str} {c:Addr} (r:List (Str × NameKind)):∀ (n:Nat) (acc:List (Str × Addr)),(x,c)∈cellsFrom n r acc→(x,NameKind.cell)∈r∨(x,c)∈acc:=by
 induction r with
 | nil=>intro n acc h; exact .inr h
 | cons p r ih =>
  intro n acc h
  obtain ⟨y,k⟩:=p
  unfold cellsFrom at h
  cases hk:k==NameKind.cell with
  | true =>
   rw [hk] at h
   rcases ih (n+1) ((y,n)::acc) h with q | q
   ·exact .inl (List.mem_cons_of_mem _ q)
   ·exact (List.mem_cons.mp q).imp (fun q=>by rw [show x=y from congrArg (·.1) q,← eq_of_beq hk]; exact List.mem_cons_self) id
  | false=>rw [hk] at h; exact (ih n acc h).imp (List.mem_cons_of_mem _) id
noncomputable def locOf (names:List (Str × NameKind)) (cs:List (Str × Addr)) (C:Addr) (x:Str):Loc:=bif names.lookup x==some .cell then .cell ((cs.lookup x).getD 0) else .loc C x
def OfFrame (C:Addr) (cs:List (Str × Addr)) (a:Addr):Prop:=a=C∨∃ x,(x,a)∈cs
structure FrameNew (C:Addr) (names:List (Str × NameKind)) (cs:List (Str × Addr)):Prop where
 apart:cs.Pairwise fun x y=>x.2≠y.2
 has:∀ x,(x,NameKind.cell)∈names→∃ c,cs.lookup x=some c
 ne:∀ x c,(x,c)∈cs→c≠C
structure FrameAt (H:Heap) (C:Addr) (names:List (Str × NameKind)) (cs:List (Str × Addr)) (vars:List Str):Prop where
 ns:∃ m,H.Ns C m
 pl:∀ x,∃ o,x∈vars→At H o (locOf names cs C x)
 mu:∀ a,OfFrame C cs a→∃ o,H.get? a=some o∧NotCode o
section
variable {h H H':Heap} {C:Addr} {names:List (Str × NameKind)} {cs:List (Str × Addr)} {vars:List Str}
theorem FrameNew.of (F:FrameNew C names cs) (x:Str):OfFrame C cs (locOf names cs C x).addr:=by
 unfold locOf
 cases e:names.lookup x==some NameKind.cell with
 | true =>
  obtain ⟨c,hc⟩:=F.has x (mem_of_lookup (eq_of_beq e))
  rw [hc]
  exact .inr ⟨x,mem_of_lookup hc⟩
 | false=>exact .inl rfl
theorem FrameNew.inj (F:FrameNew C names cs) {x y:Str} (e:locOf names cs C x=locOf names cs C y):x=y:=by
 unfold locOf at e
 cases e1:names.lookup x==some NameKind.cell with
 | true =>
  obtain ⟨c,hc⟩:=F.has x (mem_of_lookup (eq_of_beq e1))
  cases e2:names.lookup y==some NameKind.cell with
  | true =>
   obtain ⟨c',hc'⟩:=F.has y (mem_of_lookup (eq_of_beq e2))
   rw [e1,e2,hc,hc'] at e
   have e:c=c':=congrArg Loc.addr e
   exact name_of_addr F.apart (mem_of_lookup hc) (e▸mem_of_lookup hc')
  | false=>rw [e1,e2] at e; exact nomatch e
 | false =>
  cases e2:names.lookup y==some NameKind.cell with
  | true=>rw [e1,e2] at e; exact nomatch e
  | false=>rw [e1,e2] at e; injection e
theorem FrameNew.nodup (F:FrameNew C names cs) {vars:List Str} (hn:vars.Nodup):(vars.map (locOf names cs C)).Nodup:=List.Pairwise.map _ (fun _ _ n e=>n (F.inj e)) hn
theorem FrameAt.keep (F:FrameAt H C names cs vars) (N:FrameNew C names cs) (k:∀ a o,OfFrame C cs a→H.get? a=some o→H'.get? a=some o):FrameAt H' C names cs vars :=
 ⟨F.ns.imp fun m q=>q.at' fun o e=>k _ o (.inl rfl) e,fun x=>(F.pl x).imp fun o q m=>(q m).keep fun ob e=>k _ ob (N.of x) e,fun a u=>(F.mu a u).imp fun o q=>⟨k a o u q.1,q.2⟩⟩
theorem frame_ok (h:Heap) (names:List (Str × NameKind)) (cls:Value) (vars:List Str):FrameNew h.objs.size names (cellsFrom (h.objs.size+1) names [])∧(∀ a,OfFrame h.objs.size (cellsFrom (h.objs.size+1) names []) a→h.objs.size≤a)∧FrameAt (pushCells (h.push { cls:=cls,data:=.dict #[] }) names) h.objs.size names (cellsFrom (h.objs.size+1) names []) vars ∧
  (∀ x,At (pushCells (h.push { cls:=cls,data:=.dict #[] }) names) none (locOf names (cellsFrom (h.objs.size+1) names []) h.objs.size x))∧Ext h (pushCells (h.push { cls:=cls,data:=.dict #[] }) names):=by
 have ok:=cellsFrom_ok names (h.push { cls:=cls,data:=.dict #[] }) (h.objs.size+1) [] ⟨fun _ _ hm=>(nomatch hm),List.Pairwise.nil⟩ (by rw [Heap.size_push]; exact Nat.le_refl _)
 rw [Heap.size_push] at ok
 have lo:∀ x c,(x,c)∈cellsFrom (h.objs.size+1) names []→h.objs.size+1≤c:=fun x c hm=>(ok.empty x c hm).2
 have cell:∀ x c,(x,c)∈cellsFrom (h.objs.size+1) names []→At (pushCells (h.push { cls:=cls,data:=.dict #[] }) names) none (.cell c):=fun x c hm=>(ok.empty x c hm).1
 have ns:=(Heap.Ns.new h cls).keeps (pushCells_keeps names _)
 have N:FrameNew h.objs.size names (cellsFrom (h.objs.size+1) names []):=⟨ok.apart,fun x hm=>Option.isSome_iff_exists.mp (cells_some x _ _ _ (.inl hm)),fun x c hm q=>absurd (q▸lo x c hm) (Nat.not_succ_le_self _)⟩
 have pl:∀ x,At (pushCells (h.push { cls:=cls,data:=.dict #[] }) names) none (locOf names (cellsFrom (h.objs.size+1) names []) h.objs.size x):=fun x=>by
  unfold locOf
  cases e:names.lookup x==some NameKind.cell with
  | true =>
   obtain ⟨c,hc⟩:=N.has x (mem_of_lookup (eq_of_beq e))
   rw [hc]
   exact cell x c (mem_of_lookup hc)
  | false=>exact ⟨_,ns,rfl⟩
 refine ⟨N,fun a ha=>ha.elim (fun q=>Nat.le_of_eq q.symm) fun q=>q.elim fun x q=>Nat.le_of_succ_le (lo x a q),⟨⟨_,ns⟩,fun x=>⟨none,fun _=>pl x⟩,fun a q=>?_⟩,pl,fun b o e=>pushCells_keeps _ _ b o (Heap.get?_push_of_some _ e)⟩
 rcases q with q | ⟨x,q⟩
 ·obtain ⟨o,e,n,_⟩:=(show At _ none (.loc h.objs.size "") from ⟨_,ns,rfl⟩).live
  exact ⟨o,q▸e,n⟩
 ·obtain ⟨o,e,n,_⟩:=(cell x a q).live
  exact ⟨o,e,n⟩
end
noncomputable def unsets (k:Nat) (σ:List Slot):List Slot:=List.replicate k .unset++σ
theorem unsets_at {k i:Nat} {σ:List Slot} {t:Slot} (e:(unsets k σ)[i]?=some t):t=.unset∨(k≤i∧σ[i - k]?=some t):=by
 unfold unsets at e
 by_cases hi:i < k
 ·rw [List.getElem?_append_left (by rw [List.length_replicate]; exact hi),List.getElem?_replicate,if_pos hi] at e
  exact .inl (Option.some.inj e).symm
 ·rw [List.getElem?_append_right (by rw [List.length_replicate]; exact Nat.not_lt.mp hi),List.length_replicate] at e
  exact .inr ⟨Nat.not_lt.mp hi,e⟩
noncomputable def shiftW (vars:List Str) (g:Str→Option Value) (ws:Nat→Option Value) (i:Nat):Option Value:=if i < vars.length then vars[i]?.bind g else ws (i - vars.length)
section
variable {Z:Fr} {σ:List Slot} {ws:Nat→Option Value} {s s':Shared} {C:Addr} {names:List (Str × NameKind)} {cs:List (Str × Addr)} {vars:List Str} {env:Env}
noncomputable abbrev Fr.over (Z:Fr) (env:Env) (W:Addr→Prop) (cs:List (Str × Addr)) (names:List (Str × NameKind)) (C:Addr) (vars:List Str):Fr :=
 {Z with env:=env,ls:=vars.map (locOf names cs C)++Z.ls,B:=fun a=>(Z.B a∧¬ OfFrame C cs a)∧¬ W a,U:=OfFrame C cs,wr:=vars.length,ow:=0 }
theorem none_at {h:Heap} {a:Addr} {P:Prop} (e:h.get? a=none) (q:∃ o,h.get? a=some o):P:=by
 obtain ⟨o,q⟩:=q
 rw [e] at q; exact nomatch q
theorem frame_dy {W:Addr→Prop} (D:Dy Z σ ws s) (x:Stp Z.X Z.X.V s s') (N:FrameNew C names cs) (hi:∀ a,OfFrame C cs a→s.heap.get? a=none∧Z.X.N≤a) (F:FrameAt s'.heap C names cs vars) (hC:env.locals=C) (hv:vars.Nodup) (hW:∀ a,W a→s.heap.get? a=none∧∃ o,s'.heap.get? a=some o) :
  ∃ ws',Dy (Z.over env W cs names C vars) (unsets vars.length σ) ws' s':=by
 have D₁:=D.step x
 have hN:∀ a,OfFrame C cs a→Z.X.N≤a:=fun a q=>(hi a q).2
 have old:∀ a,OfFrame C cs a→s.heap.get? a=none:=fun a q=>(hi a q).1
 have mv:∀ a o,Z.B a→s.heap.get? a=some o→((Z.B a∧¬ OfFrame C cs a)∧¬ W a)∧s'.heap.get? a=some o:=fun a o b e=>⟨⟨⟨b,fun q=>none_at (old a q) ⟨o,e⟩⟩,fun q=>none_at (hW a q).1 ⟨o,e⟩⟩,x.off a o (D.sub a b) e⟩
 have loc:∀ (i:Nat) (l:Loc),(vars.map (locOf names cs C)++Z.ls)[i]?=some l→(i < vars.length∧∃ y,vars[i]?=some y∧l=locOf names cs C y)∨(¬ i < vars.length∧Z.ls[i - vars.length]?=some l):=fun i l e=>by
  by_cases hi:i < vars.length
  ·rw [List.getElem?_append_left (by rw [List.length_map]; exact hi),List.getElem?_map] at e
   exact onMap e fun y e q=>.inl ⟨hi,y,e,q.symm⟩
  ·rw [List.getElem?_append_right (by rw [List.length_map]; exact Nat.not_lt.mp hi),List.length_map] at e
   exact .inr ⟨hi,e⟩
 obtain ⟨g,hg⟩:=Classical.axiomOfChoice F.pl
 refine ⟨shiftW vars g ws,{ K:=D.K,R:=D.R,g:=D₁.g,fresh:=fun a n e=>⟨⟨D₁.fresh a n e,fun q=>none_at e ((F.mu a q).imp fun _ q=>q.1)⟩,fun q=>none_at e (hW a q).2⟩,sub:=fun a b=>D.sub a b.1.1,dis:=fun a u b=>b.1.2 u,turn:=fun a u=>⟨hN a u,F.mu a u⟩,len:=?_,pl:=fun i l e=>?_,hi:=fun l m=>?_,ok:=fun i t e=>?_,mine:=fun i l hi e=>?_,ownU:=fun i xs a hi e _=>?_,apart:=?_,nsl:=⟨hC▸hN C (.inl rfl),hC▸F.ns⟩,once:=fun i j xs ys e1 e2 e3=>?_ }⟩
 ·show (vars.map (locOf names cs C)++Z.ls).length=(unsets vars.length σ).length
  unfold unsets
  rw [List.length_append,List.length_append,List.length_map,List.length_replicate,D.len]
 ·unfold shiftW
  rcases loc i l e with ⟨hi,y,ey,rfl⟩ | ⟨hi,e⟩
  ·rw [if_pos hi,ey]; exact hg y (List.mem_of_getElem? ey)
  ·rw [if_neg hi]; exact D₁.pl _ l e
 ·rcases unsets_at e with rfl | ⟨hk,e⟩
  ·trivial
  ·unfold shiftW
   rw [if_neg (Nat.not_lt.mpr hk)]
   have q:=D.ok _ t e
   cases t with
   | unset=>trivial
   | val p=>exact q.imp fun v q=>⟨q.1,Mine.Rep.move q.2 mv⟩
   | own c=>exact ContV.move q rfl mv (fun a _ vs n _ _ u e=>x.off a _ (.inl u) e) fun a ob _ _ _ _ u f e=>⟨⟨fun l m=>(List.mem_append.mp m).elim (fun m=>by
     obtain ⟨y,_,rfl⟩:=List.mem_map.mp m
     exact fun z=>none_at (old _ (N.of y)) ⟨ob,z▸e⟩) (f.1 l),fun z=>none_at (old C (.inl rfl)) ⟨ob,(z.trans hC)▸e⟩⟩,x.off a ob (.inl u) e⟩
   | fn v=>exact q
   | is v=>exact q
 ·rcases List.mem_append.mp m with m | m
  ·obtain ⟨y,_,rfl⟩:=List.mem_map.mp m
   exact hN _ (N.of y)
  ·exact D.hi l m
 ·rcases loc i l e with ⟨_,y,_,rfl⟩ | ⟨h,_⟩
  ·exact N.of y
  ·exact absurd hi h
 ·exact absurd hi (Nat.not_lt_zero _)
 ·refine List.nodup_append.mpr ⟨N.nodup hv,D.apart,fun l m l' m' e=>?_⟩
  obtain ⟨y,_,rfl⟩:=List.mem_map.mp m
  obtain ⟨j,hj⟩:=List.mem_iff_getElem?.mp m'
  obtain ⟨o,e',_⟩:=(D.pl j l' hj).live
  exact none_at (old _ (N.of y)) ⟨o,e▸e'⟩
 ·rcases unsets_at e1 with q | ⟨h1,e1⟩
  ·exact nomatch q
  ·rcases unsets_at e2 with q | ⟨h2,e2⟩
   ·exact nomatch q
   ·unfold shiftW at e3
    rw [if_neg (Nat.not_lt.mpr h1),if_neg (Nat.not_lt.mpr h2)] at e3
    have q:=D.once _ _ xs ys e1 e2 e3
    rw [← Nat.sub_add_cancel h1,q,Nat.sub_add_cancel h2]
theorem frame_at {W:Addr→Prop} {σ':List Slot} {ws':Nat→Option Value} (D:Dy (Z.over env W cs names C vars) σ' ws' s') (hC:env.locals=C):FrameAt s'.heap C names cs vars :=
 ⟨hC▸D.nsl.2,fun x=>by
  by_cases m:x∈vars
  ·obtain ⟨i,e⟩:=List.mem_iff_getElem?.mp m
   refine ⟨ws' i,fun _=>D.pl i _ ?_⟩
   show (vars.map _++Z.ls)[i]?=_
   rw [List.getElem?_append_left (by rw [List.length_map]; exact (List.getElem?_eq_some_iff.mp e).1),List.getElem?_map,e]; rfl
  ·exact ⟨none,fun q=>absurd q m⟩,fun a u=>(D.turn a u).2⟩
end
end Mine
end
section
open PySem PySem.W PyProof.Rows
namespace Mine
noncomputable def compVars (scope:Scope):List Str:=(scope.names.filter fun x=>(x.2==.local || x.2==.cell)&&!(x.1==(".0":Str))).map (·.1)
noncomputable def hidden (vs:List Str) (x:Str):Str:=bif vs.contains x then ("":Str) else x
noncomputable def compSC (sc:SC) (scope:Scope):SC:={ sc with N:=relabelN sc.N scope.names,Γ:=compVars scope++sc.Γ.map (hidden (compVars scope)),own:=none }
noncomputable def scopeOk (sc:SC) (scope:Scope):Bool :=
 scope.kind==.function&&(decide ((scope.names.map (·.1)).Nodup)&&(!((scope.names.map (·.1)).contains ("":Str))&&(!(sc.Γ.contains (".0":Str)) &&
 scope.names.all (fun x=>!(x.2==.free) || (sc.Γ.contains x.1&&(sc.N.lookup x.1==some .cell || sc.N.lookup x.1==some .free))))))
noncomputable def compEnv' (scope:Scope) (cells:List (Str × Addr)) (C:Addr) (env:Env):Env :=
 {scope:=relabel scope env,locals:=C,globals:=env.globals,cells:=cells,qual:=env.qual,func:=none,code:=env.code,frame:=env.frame,builtins:=env.builtins }
theorem not_has {l:List Str} {x:Str} (h:(!(l.contains x))=true):x ∉ l:=fun m=>by rw [List.contains_iff_mem.mpr m] at h; exact nomatch h
section
variable {sc:SC} {scope:Scope} {env:Env} {ls:List Loc} {C:Addr} {n:Nat} {cl:List (Str × Addr)}
structure ScopeOk (sc:SC) (scope:Scope):Prop where
 kind:scope.kind=.function
 nodup:(scope.names.map (·.1)).Nodup
 blank:("":Str) ∉ scope.names.map (·.1)
 dot:(".0":Str) ∉ sc.Γ
 free:∀ x,(x,NameKind.free)∈scope.names→x∈sc.Γ∧(sc.N.lookup x=some .cell∨sc.N.lookup x=some .free)
theorem scopeOk_is (hs:scopeOk sc scope=true):ScopeOk sc scope:=by
 obtain ⟨h1,hs⟩:=both hs
 obtain ⟨h2,hs⟩:=both hs
 obtain ⟨h3,hs⟩:=both hs
 obtain ⟨h4,hs⟩:=both hs
 refine ⟨eq_of_beq h1,of_decide_eq_true h2,not_has h3,not_has h4,fun x hx=>?_⟩
 have q:=both (List.all_eq_true.mp hs (x,.free) hx:(sc.Γ.contains x&&(sc.N.lookup x==some .cell || sc.N.lookup x==some .free))=true)
 exact ⟨List.contains_iff_mem.mp q.1,(Bool.or_eq_true _ _▸q.2:_∨_).imp eq_of_beq eq_of_beq⟩
theorem compVars_mem {x:Str}:x∈compVars scope→∃ k,(x,k)∈scope.names∧(k=.local∨k=.cell)∧x≠(".0":Str):=fun h=>by
 obtain ⟨⟨y,k⟩,h1,rfl⟩:=List.mem_map.mp h
 obtain ⟨h2,h3⟩:=List.mem_filter.mp h1
 have h3:=both h3
 exact ⟨k,h2,(Bool.or_eq_true _ _▸h3.1:_∨_).imp eq_of_beq eq_of_beq,fun q=>by rw [show ((y,k).1==(".0":Str))=true from beq_iff_eq.mpr q] at h3; exact (nomatch h3.2)⟩
theorem mem_compVars {x:Str} {k:NameKind} (h:(x,k)∈scope.names) (hk:((k==.local || k==.cell)&&!(x==(".0":Str)))=true):x∈compVars scope:=List.mem_map.mpr ⟨(x,k),List.mem_filter.mpr ⟨h,hk⟩,rfl⟩
theorem compVars_nodup (h:(scope.names.map (·.1)).Nodup):(compVars scope).Nodup:=List.Sublist.nodup (List.Sublist.map _ List.filter_sublist) h
theorem relabel_is (EO:EnvOk env sc ls) (scope:Scope):(relabel scope env).names=relabelN sc.N scope.names:=by
 unfold relabel relabelN relabelK
 show List.map _ scope.names=List.map _ scope.names
 congr 1
 funext x
 obtain ⟨n,k⟩:=x
 have:env.kindOf n=sc.N.lookup n:=by rw [← EO.names]; rfl
 simp only [EO.kind,this,beq_self_eq_true,Bool.and_true]
 cases (k==NameKind.free&&sc.N.lookup n==some NameKind.cell) <;> rfl
noncomputable def handed (names:List (Str × NameKind)) (env:Env):List (Str × Addr):=(names.filter (·.2==.free)).reverse.map fun x=>(x.1,(env.cells.lookup x.1).getD 0)
theorem handed_cons {n:Str} {k:NameKind} {r:List (Str × NameKind)} {acc:List (Str × Addr)}:handed ((n,k)::r) env++acc=handed r env++(bif k==.free then (n,(env.cells.lookup n).getD 0)::acc else acc):=by
 unfold handed
 rw [List.filter_cons]
 cases k==NameKind.free with
 | true=>show (List.map _ (List.reverse (_::_)))++acc=_; rw [List.reverse_cons,List.map_append,List.append_assoc]; rfl
 | false=>rfl
theorem cell_of (EO:EnvOk env sc ls) (S:ScopeOk sc scope) {x:Str} (hx:(x,NameKind.free)∈scope.names):∃ c,env.cells.lookup x=some c:=by
 obtain ⟨h1,h2⟩:=S.free x hx
 obtain ⟨i,e⟩:=List.mem_iff_getElem?.mp h1
 have hl:i < ls.length:=by rw [EO.len]; exact (List.getElem?_eq_some_iff.mp e).1
 exact (EO.cel i x ls[i] e (List.getElem?_eq_getElem hl) h2).imp fun _ q=>q.1
theorem closure_ok (EO:EnvOk env sc ls) (S:ScopeOk sc scope):closureFor scope env=pure (handed scope.names env):=by
 have go:∀ (names:List (Str × NameKind)) (acc:List (Str × Addr)),(∀ p∈names,p∈scope.names) →
   (forIn names acc (fun (x:Str × NameKind) (cs:List (Str × Addr))=>(match x with | (name,kind)=>if kind==.free then (do let c ← cellOf env name; pure (ForInStep.yield ((name,c)::cs))) else pure (ForInStep.yield cs):Sem (ForInStep (List (Str × Addr)))))) =
    pure (handed names env++acc):=by
  intro names
  induction names with
  | nil=>intro acc _; rfl
  | cons p r ih =>
   intro acc hp
   obtain ⟨n,kd⟩:=p
   have hr:∀ p∈r,p∈scope.names:=fun q hq=>hp q (List.mem_cons_of_mem _ hq)
   rw [List.forIn_cons,handed_cons]
   cases hk:kd==NameKind.free with
   | true =>
    obtain rfl:=eq_of_beq hk
    obtain ⟨c,hc⟩:=cell_of EO S (hp _ List.mem_cons_self)
    have e1:cellOf env n=pure c:=by unfold cellOf; rw [hc]
    show (do let y ← (do let c ← cellOf env n; pure (ForInStep.yield ((n,c)::acc)):Sem (ForInStep (List (Str × Addr)))); _)=_
    rw [e1,hc]
    exact ih _ hr
   | false =>
    show (do let y ← (if kd==NameKind.free then (do let c ← cellOf env n; pure (ForInStep.yield ((n,c)::acc))) else pure (ForInStep.yield acc):Sem (ForInStep (List (Str × Addr)))); _)=_
    rw [hk]
    exact ih _ hr
 unfold closureFor
 refine Eq.trans (congrArg (fun t=>t >>= fun cs=>pure cs) (Eq.trans ?_ (go scope.names [] fun _ q=>q))) ?_
 ·congr 1
 ·rw [pure_bind,List.append_nil]
theorem handed_lookup (EO:EnvOk env sc ls) (S:ScopeOk sc scope) {x:Str} (hx:(x,NameKind.free)∈scope.names):(handed scope.names env).lookup x=env.cells.lookup x:=by
 obtain ⟨c,hc⟩:=cell_of EO S hx
 rw [hc]
 refine lookup_of_mem ?_ (List.mem_map.mpr ⟨(x,NameKind.free),List.mem_reverse.mpr (List.mem_filter.mpr ⟨hx,rfl⟩),by rw [hc]; rfl⟩)
 unfold handed
 rw [List.map_map,List.map_reverse]
 exact List.pairwise_reverse.mpr (List.Pairwise.imp (fun h=>Ne.symm h) (List.Sublist.nodup (List.Sublist.map _ List.filter_sublist) S.nodup))
theorem kind_old {x:Str} {k:NameKind} (e:(relabelN sc.N scope.names).lookup x=some k):∃ k',(x,k')∈scope.names∧relabelK sc.N x k'=k:=by
 rw [lookup_relabelN] at e
 exact onMap e fun k' e1 e2=>⟨k',mem_of_lookup e1,e2⟩
theorem hidden_is {vs:List Str} {x y:Str} (e:hidden vs x=y):y=""∨(y ∉ vs∧x=y):=by
 unfold hidden at e
 cases h:vs.contains x with
 | true=>rw [h] at e; exact .inl e.symm
 | false =>
  rw [h] at e
  exact .inr ⟨fun m=>by rw [← (show x=y from e)] at m; rw [List.contains_iff_mem.mpr m] at h; exact (nomatch h),e⟩
theorem comp_split {vars Γ:List Str} {ps:List Loc} {g:Str→Loc} {i:Nat} {x:Str} {l:Loc} (e1:(vars++Γ.map (hidden vars))[i]?=some x) (e2:(vars.map g++ps)[i]?=some l) :
  (x∈vars∧l=g x)∨(x=""∨(x ∉ vars∧∃ j:Nat,Γ[j]?=some x∧ps[j]?=some l)):=by
 by_cases hi:i < vars.length
 ·rw [List.getElem?_append_left hi] at e1
  rw [List.getElem?_append_left (by rw [List.length_map]; exact hi),List.getElem?_map,e1] at e2
  exact .inl ⟨List.mem_of_getElem? e1,(Option.some.inj e2).symm⟩
 ·have hi:=Nat.not_lt.mp hi
  rw [List.getElem?_append_right hi,List.getElem?_map] at e1
  rw [List.getElem?_append_right (by rw [List.length_map]; exact hi),List.length_map] at e2
  exact onMap e1 fun y h1 h2=>.inr ((hidden_is h2).imp_right fun q=>⟨q.1,_,q.2▸h1,e2⟩)
theorem comp_env_ok (EO:EnvOk env sc ls) (S:ScopeOk sc scope):EnvOk (compEnv' scope (cellsFrom n scope.names (handed scope.names env)) C env) (compSC sc scope) ((compVars scope).map (locOf scope.names (cellsFrom n scope.names []) C)++ls):=by
 have noblank:∀ {k},(relabelN sc.N scope.names).lookup ("":Str)≠some k:=fun q=>(kind_old q).elim fun k' q=>S.blank (List.mem_map.mpr ⟨_,q.1,rfl⟩)
 refine ⟨S.kind,relabel_is EO scope,EO.glob,EO.blt,?_,fun i x l e1 e2 e3=>?_,fun i x l e1 e2 e3=>?_,fun c q e=>no e⟩
 ·show _=((compVars scope)++sc.Γ.map _).length
  rw [List.length_append,List.length_append,List.length_map,List.length_map,EO.len]
 ·obtain ⟨k,hk,ek⟩:=kind_old (k:=.local) e3
  have hk:(x,NameKind.local)∈scope.names:=by
   unfold relabelK at ek
   cases q:(k==NameKind.free&&sc.N.lookup x==some .cell) with
   | true=>rw [q] at ek; exact nomatch ek
   | false=>rw [q] at ek; exact (show k=NameKind.local from ek)▸hk
  rcases comp_split e1 e2 with ⟨_,rfl⟩ | rfl | ⟨h1,j,h2,_⟩
  ·unfold locOf
   rw [lookup_of_mem S.nodup hk]; rfl
  ·exact absurd e3 noblank
  ·refine absurd (mem_compVars hk ?_) h1
   cases q:x==(".0":Str) with
   | true=>exact absurd (eq_of_beq q▸List.mem_of_getElem? h2) S.dot
   | false=>rfl
 ·show ∃ c,(cellsFrom n scope.names (handed scope.names env)).lookup x=some c∧_
  obtain ⟨k,hk,ek⟩:∃ k,(x,k)∈scope.names∧(k=.cell∨k=.free):=by
   rcases e3 with e3 | e3
   all_goals
    obtain ⟨k,hk,ek⟩:=kind_old e3
    refine ⟨k,hk,?_⟩
    cases k with
    | cell=>exact .inl rfl
    | free=>exact .inr rfl
    | _=>exact nomatch ek
  rw [cells_append,List.lookup_append]
  have own:k=.cell→∃ c,(cellsFrom n scope.names []).lookup x=some c:=fun q=>Option.isSome_iff_exists.mp (cells_some x _ n [] (.inl (q▸hk)))
  rcases comp_split e1 e2 with ⟨h1,rfl⟩ | rfl | ⟨h1,j,h2,h3⟩
  ·obtain ⟨k',h4,h5,_⟩:=compVars_mem h1
   have e:k=k':=Option.some.inj ((lookup_of_mem S.nodup hk).symm.trans (lookup_of_mem S.nodup h4))
   obtain rfl:k=.cell:=ek.resolve_right fun q=>by rw [← e,q] at h5; exact h5.elim (fun q=>nomatch q) fun q=>nomatch q
   obtain ⟨c,hc⟩:=own rfl
   refine ⟨c,by rw [hc]; rfl,?_⟩
   unfold locOf
   rw [lookup_of_mem S.nodup hk,hc]; rfl
  ·exact e3.elim (fun q=>absurd q noblank) fun q=>absurd q noblank
  ·obtain rfl:k=.free:=ek.resolve_left fun q=>h1 (mem_compVars (q▸hk) (by
    cases z:x==(".0":Str) with
    | true=>exact absurd (eq_of_beq z▸List.mem_of_getElem? h2) S.dot
    | false=>rfl))
   obtain ⟨c,h4,h5⟩:=EO.cel j x l h2 h3 (S.free x hk).2
   refine ⟨c,?_,h5⟩
   have:(cellsFrom n scope.names []).lookup x=none:=by
    cases q:(cellsFrom n scope.names []).lookup x with
    | none=>rfl
    | some c' =>
     have hm:=(cells_names scope.names n [] (mem_of_lookup q)).elim id fun q=>(nomatch q)
     exact nomatch (lookup_of_mem S.nodup hm).symm.trans (lookup_of_mem S.nodup hk)
   rw [this,handed_lookup EO S hk,h4]; rfl
end
end Mine
end
section
open PySem PySem.W PyProof.Rows
namespace Mine
section
variable {Ar:Around} {s:Shared} {env:Env}
theorem new_comp_env {M:Model} {E:Value→Shared→Prop} {scope:Scope} {cl:List (Str × Addr)} {Q:Env→Shared→Prop}
  (h:Q { scope:=scope,locals:=s.heap.objs.size,globals:=env.globals,cells:=cellsFrom (s.heap.objs.size+1) scope.names cl,qual:=env.qual,func:=none,code:=env.code,frame:=env.frame,builtins:=env.builtins }
   {s with heap:=pushCells (s.heap.push { cls:=.type "dict",data:=.dict #[] }) scope.names }):wpAny M Ar (newFunctionEnv scope env.globals cl [] env.qual none .none (some env)) Q E s:=by
 simp only [newFunctionEnv,Option.isSome_some,if_true]
 refine wpAny_bind (wpAny_alloc ?_)
 refine wpAny_bind (wpAny_layCells _ (fun name kind cells=>by cases hkc:kind==NameKind.cell <;> simp [hkc]) _ _ _ _ ?_)
 rw [show ({ s with heap:=s.heap.push { cls:=.type "dict",data:=.dict #[] } }:Shared).heap.objs.size=s.heap.objs.size+1 from Heap.size_push ..]
 rw [List.forIn_nil]
 exact wpAny_bind (wpAny_pure (wpAny_pure h))
noncomputable abbrev sieve (ifs:List Expr) (env:Env):Sem Bool:=forIn ifs true fun c r=>if r=true then do let ok ← isTrue c env (eval c env); pure (ForInStep.yield ok) else pure (ForInStep.yield r)
theorem codeAny_comp {prog:Program} {w:World} {R:Result→Shared→Prop} {elt target iter:Expr} {ifs:List Expr} {scope:Scope} {pos:Pos} {it acc:Value} {env:Env} (I:Nat→Shared→Prop)
  (turn:∀ n s,I n s→∀ E:Value→Shared→Prop,wpAny (model prog w) Ar (pyNext it) (fun r s₁=>Option.casesOn r (R (.ok .next) s₁) fun v=>wpAny (model prog w) Ar (letOwnedTupleGo target it v) (fun _ s₁'=>wpAny (model prog w) Ar (assign target env v) (fun _ s₂ =>
     wpAny (model prog w) Ar (sieve ifs env) (fun ok s₃=>Bool.casesOn ok (∃ m,m < n∧I m s₃) (wpAny (model prog w) Ar (eval elt env) (fun x s₄=>wpAny (model prog w) Ar (call (.builtin "list.append") [acc,x]) (fun _ s₅=>∃ m,m < n∧I m s₅) E s₄) E s₃)) E s₂) E s₁') E s₁) E s)
  (n:Nat) (h:I n s):codeAny (model prog w) Ar (.compLoop (.ListComp elt [⟨target,iter,ifs,0⟩] scope pos) 0 it acc env) R s:=by
 refine codeAny_loop rfl I (fun n s hI=>?_) n h
 show wpAny _ Ar ((compTurn (.ListComp elt [⟨target,iter,ifs,0⟩] scope pos) 0 it acc env).onRaise (fun x=>do noteFrame x env; theTreesLotGoes x)) _ _ s
 refine wpAny_noted ?_
 rw [compTurn_list]
 refine wpAny_bind (wpAny_standAt (wpAny_bind (wpAny_mono (turn n s hI _) (fun r s₁ h₁=>?_) fun _ _ h'=>h')))
 cases r with
 | none=>exact wpAny_pure h₁
 | some v =>
  refine wpAny_bind (wpAny_mono h₁ (fun _ s₁' h₁'=>?_) fun _ _ h'=>h')
  refine wpAny_bind (wpAny_mono h₁' (fun _ s₂ h₂=>wpAny_bind (wpAny_mono h₂ (fun ok s₃ h₃=>?_) fun _ _ h'=>h')) fun _ _ h'=>h')
  cases ok with
  | false=>exact wpAny_pure ⟨rfl,h₃⟩
  | true=>exact wpAny_bind (wpAny_bind (wpAny_mono h₃ (fun x s₄ h₄=>wpAny_bind (wpAny_mono h₄ (fun _ s₅ h₅=>wpAny_pure (wpAny_pure ⟨rfl,h₅⟩)) fun _ _ h'=>h')) fun _ _ h'=>h'))
end
theorem St.on {X:Cx} {K K':Addr→Prop} {g g':Nat} {s s' s'':Shared} (x:St X K g s s') (y:St X K' g' s' s'') (h:∀ a o,K a→s.heap.get? a=some o→K' a) (hg:g≤g'):St X K g s s'' :=
 ⟨fun a o k e=>y.off a o (h a o k e) (x.off a o k e),fun q=>y.G (x.G q),fun i z l e=>y.gens i z (Nat.lt_of_lt_of_le l hg) (x.gens i z l e),fun b=>y.bare (x.bare b),y.os.trans x.os⟩
theorem lst_code {vs:List Value} {n:Nat}:NotCode (lstO vs n):=.inl fun q=>by
 injection q with q
 exact absurd q (by decide)
section
variable {Z:Fr} {K:Addr→Prop} {tp:Bool} {it:Value} {xs:List PV} {W₀ W W':Addr→Prop} {S:(Addr→Prop)→Nat→Shared→Prop} {s s₁ s' s'':Shared} {Da C:Addr} {names:List (Str × NameKind)} {cs:List (Str × Addr)} {vars:List Str} {i j:Nat} {done:List PV} {vs:List Value}
def Fr.In (Z:Fr) (C:Addr) (cs:List (Str × Addr)) (W:Addr→Prop) (Da a:Addr):Prop:=(Z.B a∧¬ OfFrame C cs a)∧¬ (W a∨a=Da)
structure Mid (Z:Fr) (s:Shared) (S:(Addr→Prop)→Nat→Shared→Prop) (Da C:Addr) (names:List (Str × NameKind)) (cs:List (Str × Addr)) (vars:List Str) (W:Addr→Prop) (i:Nat) (done:List PV) (vs:List Value) (s':Shared):Prop where
 st:S W i s'
 wo:∀ a,W a→(s.heap.get? a=none∧∃ o,s'.heap.get? a=some o)∧(Z.X.N≤a∧(a≠Da∧¬ OfFrame C cs a))
 x:Stp Z.X Z.X.V s s'
 fr:FrameAt s'.heap C names cs vars
 l:∃ n,s'.heap.get? Da=some (lstO vs n)
 r:Mine.RepL s'.heap (Z.In C cs W Da) done vs
structure MidC (Z:Fr) (s:Shared) (Da C:Addr) (names:List (Str × NameKind)) (cs:List (Str × Addr)):Prop where
 V:Bs Z s
 N:FrameNew C names cs
 hi:∀ a,OfFrame C cs a→s.heap.get? a=none∧Z.X.N≤a
 dn:s.heap.get? Da=none∧Z.X.N≤Da
 ap:¬ OfFrame C cs Da
theorem Mid.next (M:Mid Z s S Da C names cs vars W i done vs s') (c:MidC Z s Da C names cs) (y:St Z.X (Z.X.VW W) s.gens.size s' s'') (h1:∀ a,W' a→W a∨s'.heap.get? a=none) (hm:∀ a,W' a→Mut Z.X.N s''.heap a) (st:S W' j s''):Mid Z s S Da C names cs vars W' j done vs s'' :=
 have fk:∀ a o,OfFrame C cs a→s'.heap.get? a=some o→s''.heap.get? a=some o:=fun a o u e=>y.off a o ⟨.inl (c.hi _ u).2,fun w=>(M.wo a w).2.2.2 u⟩ e
 {st:=st
  wo:=fun a w=>(h1 a w).elim (fun q=>⟨⟨(M.wo a q).1.1,(hm a w).2.imp fun _ q=>q.1⟩,(M.wo a q).2⟩) fun q=>⟨⟨M.x.live (.inl (hm a w).1) q,(hm a w).2.imp fun _ q=>q.1⟩,(hm a w).1,
   fun e=>none_at (e▸q) (M.l.elim fun n q=>⟨_,q⟩),fun u=>none_at q ((M.fr.mu a u).imp fun _ q=>q.1)⟩
  x:=M.x.on y (fun a o v e=>⟨v,fun w=>none_at (M.wo a w).1.1 ⟨o,e⟩⟩) (Nat.le_refl _)
  fr:=M.fr.keep c.N fk
  l:=M.l.imp fun n e=>y.off _ _ ⟨.inl c.dn.2,fun w=>(M.wo _ w).2.2.1 rfl⟩ e
  r:=Mine.RepL.move (fun a o b e=>⟨⟨b.1,fun q=>q.elim (fun w=>(h1 a w).elim (fun q=>b.2 (.inl q)) fun q=>none_at q ⟨o,e⟩) fun q=>b.2 (.inr q)⟩,y.off a o ⟨c.V.sub a b.1.1,fun w=>b.2 (.inl w)⟩ e⟩) M.r }
theorem Mid.to (M:Mid Z s S Da C names cs vars W i done vs s') (c:MidC Z s Da C names cs) (y:Stp Z.X (fun a=>Z.X.V a∧¬ OfFrame C cs a) s' s'') (st:S W i s'') (fr:FrameAt s''.heap C names cs vars):Mid Z s S Da C names cs vars W i done vs s'' :=
 {st:=st
  wo:=fun a w=>⟨⟨(M.wo a w).1.1,(M.wo a w).1.2.imp fun o e=>y.off a o ⟨.inl (M.wo a w).2.1,(M.wo a w).2.2.2⟩ e⟩,(M.wo a w).2⟩
  x:=M.x.on y (fun a o v e=>⟨v,fun u=>none_at (c.hi _ u).1 ⟨o,e⟩⟩) M.x.size
  fr:=fr
  l:=M.l.imp fun n e=>y.off _ _ ⟨.inl c.dn.2,c.ap⟩ e
  r:=Mine.RepL.move (fun a o b e=>⟨b,y.off a o ⟨c.V.sub a b.1.1,b.1.2⟩ e⟩) M.r }
theorem Mid.push (M:Mid Z s S Da C names cs vars W i done vs s') (c:MidC Z s Da C names cs) {h':Heap} {v:Value} {p:PV} {n:Nat} (e:h'.get? Da=some (lstO (vs++[v]) n)) (k:∀ a o,a≠Da→s'.heap.get? a=some o→h'.get? a=some o)
  (r:Mine.Rep s'.heap (Z.In C cs W Da) p v) (st:S W i { s' with heap:=h' }):Stp Z.X (fun a=>Z.X.V a∧a≠Da) s' { s' with heap:=h' }→Mid Z s S Da C names cs vars W i (done++[p]) (vs++[v]) { s' with heap:=h' }:=fun y =>
 {st:=st
  wo:=fun a w=>⟨⟨(M.wo a w).1.1,(M.wo a w).1.2.imp fun o e=>k a o (M.wo a w).2.2.1 e⟩,(M.wo a w).2⟩
  x:=M.x.on y (fun a o v e=>⟨v,fun u=>none_at (u▸c.dn.1) ⟨o,e⟩⟩) M.x.size
  fr:=M.fr.keep c.N fun a o u e=>k a o (fun q=>c.ap (q▸u)) e
  l:=⟨n,e⟩
  r:=RepL.append (RepL.cons (r.move fun a o b e=>⟨b,k a o (fun q=>b.2 (.inr q)) e⟩) RepL.nil) (Mine.RepL.move (fun a o b e=>⟨b,k a o (fun q=>b.2 (.inr q)) e⟩) M.r) }
end
end Mine
end
section
open PySem PySem.W PyProof.Rows
namespace Mine
structure SF (sc:SC) where
 es:List Expr
 ev:Fns→List Slot→Option Bool
 ok:∀ {Z:Fr} {σ:List Slot} {ws:Nat→Option Value} {s:Shared} {b:Bool},Ev Z sc σ ws s→ev Z.Φ σ=some b→GetsB Z s b (sieve es Z.env)
noncomputable def SF.all {sc:SC}:SF sc:=⟨[],fun _ _=>some true,fun {Z σ ws s b} V e Q E q=>by rw [← Option.some.inj e] at q; unfold sieve; rw [List.forIn_nil]; exact wpAny_pure (q _ .refl)⟩
noncomputable def SF.one {sc:SC} (x:SB sc):SF sc:=⟨[x.e],x.ev,fun {Z σ ws s b} V e Q E q=>by
 unfold sieve
 rw [List.forIn_cons,if_pos rfl]
 refine wpAny_bind (wpAny_bind ((x.ok V e) _ _ fun s' st=>wpAny_pure ?_))
 dsimp only
 rw [List.forIn_nil]
 exact wpAny_pure (q s' st)⟩
noncomputable def compGo {sc:SC} (tg:SP sc) (ifs:SF sc) (elt:SE sc) (k:Nat) (Φ:Fns) (σ:List Slot) (xs:List PV):Option (List PV) :=
 List.rec (motive:=fun _=>Option (List PV)) (some []) (fun x _ r=>(tg.bind x (unsets k σ)).bind fun σ'=>(ifs.ev Φ σ').bind fun b=>bif b then (elt.ev Φ σ').bind fun y=>r.map (y::·) else r) xs
structure Cp (sc:SC) where
 scope:Scope
 it:SI sc
 tg:SP (compSC sc scope)
 ifs:SF (compSC sc scope)
 elt:SE (compSC sc scope)
 pos:Pos
 h:(scopeOk sc scope&&(tg.ts.all (fun t=>Nat.blt t.i (compVars scope).length)&&(!it.need || tg.tp)))=true
section
variable {sc:SC} {Z:Fr} {σ:List Slot} {ws:Nat→Option Value} {s s':Shared}
noncomputable def Cp.e (c:Cp sc):Expr:=.ListComp c.elt.e [⟨c.tg.e,c.it.e,c.ifs.es,0⟩] c.scope c.pos
noncomputable def Cp.ev (c:Cp sc) (Φ:Fns) (σ:List Slot):Option (List PV):=(c.it.ev Φ σ).bind fun xs=>(compGo c.tg c.ifs c.elt (compVars c.scope).length Φ σ xs).bind fun ys=>bif fits ys.length then some ys else none
theorem items_left {xs:List PV} {i:Nat} {x:PV} (e:xs[i]?=some x):xs.drop i=x::xs.drop (i+1):=by
 obtain ⟨h,e⟩:=List.getElem?_eq_some_iff.mp e
 rw [List.drop_eq_getElem_cons h,e]
theorem done_len {done rest ys:List PV} {n:Nat} (e:done++rest=ys) (h:ys.length≤n):done.length≤n:=Nat.le_trans (by rw [← e,List.length_append]; exact Nat.le_add_right _ _) h
theorem compGo_cons {tg:SP sc} {ifs:SF sc} {elt:SE sc} {k:Nat} {Φ:Fns} {x:PV} {xs ys:List PV} (e:compGo tg ifs elt k Φ σ (x::xs)=some ys) :
  ∃ σ' b,tg.bind x (unsets k σ)=some σ'∧ifs.ev Φ σ'=some b∧(bif b then (elt.ev Φ σ').bind fun y=>(compGo tg ifs elt k Φ σ xs).map (y::·) else compGo tg ifs elt k Φ σ xs)=some ys :=
 onBind e fun σ' e1 e=>onBind e fun b e2 e=>⟨σ',b,e1,e2,e⟩
theorem comp_loop {scope:Scope} {tg:SP (compSC sc scope)} {ifs:SF (compSC sc scope)} {elt:SE (compSC sc scope)} {iter:Expr} {pos:Pos} {it:Value} {W₀:Addr→Prop} {S:(Addr→Prop)→Nat→Shared→Prop} {s₂:Shared} {h₄:Heap} {tk:Nat} {Da C:Addr} {cs:List (Str × Addr)} {env:Env} {xs ys:List PV}
  (hv:(compVars scope).Nodup) (hw:∀ t∈tg.ts,t.i < (compVars scope).length) (V:Ev Z sc σ ws s) (x₂:Stp Z.X Z.X.V s s₂) (I:Iter Z Z.X.V tg.tp it xs W₀ S s s₂) (e:compGo tg ifs elt (compVars scope).length Z.Φ σ xs=some ys) (hy:ys.length≤1000000)
  (c:MidC Z s Da C scope.names cs) (old:∀ a,(OfFrame C cs a∨a=Da)→s₂.heap.get? a=none) (EO:EnvOk env (compSC sc scope) ((compVars scope).map (locOf scope.names cs C)++Z.ls)) (hC:env.locals=C) {R:Result→Shared→Prop}
  (F:FrameAt h₄ C scope.names cs (compVars scope)) (x₄:Ext s₂.heap h₄) (hl:h₄.get? Da=some (lstO [] 0))
  (hR:∀ vs s',Stp Z.X Z.X.V s s'→(∃ m,s'.heap.Ns C m)→(∃ n,s'.heap.get? Da=some (lstO vs n))→Mine.RepL s'.heap (fun a=>(Z.B a∧¬ OfFrame C cs a)∧a≠Da) ys vs→R (.ok .next) s') :
  codeAny Z.X.M Z.Ar (.compLoop (.ListComp elt.e [⟨tg.e,iter,ifs.es,0⟩] scope pos) 0 it (.ref Da) env) R { s₂ with heap:=h₄,toks:=tk }:=by
 have y₄:Stp Z.X Z.X.V s₂ { s₂ with heap:=h₄,toks:=tk }:=(V.step x₂).toBs.ext x₄
 refine codeAny_comp (fun n s'=>∃ W i done rest vs,(n=xs.length - i∧i≤xs.length)∧Mid Z s S Da C scope.names cs (compVars scope) W i done vs s'∧compGo tg ifs elt (compVars scope).length Z.Φ σ (xs.drop i)=some rest∧done++rest=ys) ?_ xs.length
  ⟨W₀,0,[],ys,[],⟨rfl,Nat.zero_le _⟩,⟨I.keep _ _ _ _ _ I.start y₄ (fun a w=>.inl (I.mutd _ _ _ I.start a w).1) fun _ _ k _=>k,fun a w=>?_,x₂.trans y₄,F,⟨0,hl⟩,RepL.nil⟩,e,rfl⟩
 ·rintro n s' ⟨W,i,done,rest,vs,⟨hn,hi⟩,M,hm,hd⟩ E
  cases hxi:xs[i]? with
  | none =>
   obtain rfl:i=xs.length:=Nat.le_antisymm hi (List.getElem?_eq_none_iff.mp hxi)
   refine I.done W s' _ _ M.st (M.x.G V.g) fun s'' y=>?_
   rw [List.drop_length] at hm
   obtain rfl:=Option.some.inj hm
   rw [List.append_nil] at hd
   subst hd
   exact hR vs s'' (M.x.on y (fun a o v e=>⟨v,fun w=>none_at (M.wo a w).1.1 ⟨o,e⟩⟩) (Nat.le_refl _)) (M.fr.ns.imp fun m q=>q.at' fun o e=>y.off _ o ⟨.inl (c.hi C (.inl rfl)).2,fun w=>(M.wo _ w).2.2.2 (.inl rfl)⟩ e)
    (M.l.imp fun n e=>y.off _ _ ⟨.inl c.dn.2,fun w=>(M.wo _ w).2.2.1 rfl⟩ e) (Mine.RepL.move (fun a o b e=>⟨⟨b.1,fun q=>b.2 (.inr q)⟩,y.off a o ⟨V.sub a b.1.1,fun w=>b.2 (.inl w)⟩ e⟩) M.r)
  | some x =>
   have hlt:i < xs.length:=(List.getElem?_eq_some_iff.mp hxi).1
   have less:xs.length - (i+1) < n:=hn▸Nat.sub_lt_sub_left hlt (Nat.lt_succ_self i)
   rw [items_left hxi] at hm
   obtain ⟨σ',b,e1,e2,e3⟩:=compGo_cons hm
   refine I.item W i x tg.e hxi tg.ht (fun a=>(Z.B a∧¬ OfFrame C cs a)∧a≠Da) s' _ _ (fun a o b e=>⟨⟨b,fun u=>none_at (old a (.inl u)) ⟨o,e⟩⟩,fun u=>none_at (old a (.inr u)) ⟨o,e⟩⟩)
    (fun a n e=>⟨⟨V.fresh a n (M.x.live (.inl n) e),fun u=>none_at e ((M.fr.mu a u).imp fun _ q=>q.1)⟩,fun u=>none_at (u▸e) (M.l.elim fun n q=>⟨_,q⟩)⟩) M.st (M.x.G V.g) fun W' v sa h1 h2 h3 ya rv go=>?_
   refine go _ _ fun sb yb stb=>?_
   have y:St Z.X (Z.X.VW W) s.gens.size s' sb:=ya.on yb (fun a o k e=>⟨k.1,fun w=>(h2 a w).elim k.2 fun q=>none_at q ⟨o,e⟩⟩) (Nat.le_refl _)
   have Mb:=M.next c y h2 (I.mutd W' (i+1) sb stb) stb
   obtain ⟨wb,Db⟩:=frame_dy (W:=fun a=>W' a∨a=Da) V.toDy Mb.x c.N c.hi Mb.fr hC hv (fun a q=>q.elim (fun w=>(Mb.wo a w).1) fun q=>q▸⟨c.dn.1,Mb.l.elim fun n q=>⟨_,q⟩⟩)
   refine tg.ok Db EO hw (rv.move fun a o b e=>⟨⟨b.1.1,fun q=>q.elim b.2 b.1.2⟩,yb.off a o ⟨V.sub a b.1.1.1,b.2⟩ e⟩) e1 fun wc sc₁ yc Dc=>?_
   have Vc:Ev (Z.over env (fun a=>W' a∨a=Da) cs scope.names C (compVars scope)) (compSC sc scope) σ' wc sc₁:=⟨Dc,V.P,EO,V.nm⟩
   refine ifs.ok Vc e2 _ _ fun sd yd=>?_
   have Vd:=Vc.step yd
   have yk:Stp Z.X (fun a=>Z.X.V a∧¬ OfFrame C cs a) sb sd:=yc.trans yd.toK
   have mid:∀ {sx:Shared},Stp Z.X (fun a=>Z.X.V a∧¬ OfFrame C cs a) sb sx→FrameAt sx.heap C scope.names cs (compVars scope)→Mid Z s S Da C scope.names cs (compVars scope) W' (i+1) done vs sx:=fun y fr =>
    Mb.to c y (I.keep W' (i+1) sb _ _ stb y (fun a w=>⟨.inl (Mb.wo a w).2.1,(Mb.wo a w).2.2.2⟩) fun a o k e=>⟨k,fun u=>none_at (old a (.inl u)) ⟨o,e⟩⟩) fr
   cases b with
   | false=>exact ⟨_,less,W',i+1,done,rest,vs,⟨rfl,hlt⟩,mid yk (frame_at Vd.toDy hC),e3,hd⟩
   | true =>
    refine onBind e3 fun p e3 e4=>onMap e4 fun rest' e4 e5=>elt.go Vd e3 fun v' s5 y5 V5 r5=>?_
    have M5:=mid (yk.trans y5.toK) (frame_at V5.toDy hC)
    obtain ⟨n5,l5⟩:=M5.l
    refine wpAny_list_append_plain (items:=vs.toArray) ⟨n5,l5⟩ (fun h' hl' hs'=>?_) (by rw [List.size_toArray,M5.r.length]; exact le_line (done_len hd hy))
    obtain ⟨n6,l6⟩:=hl'
    rw [List.push_toArray] at l6
    have k6:∀ a o,a≠Da→s5.heap.get? a=some o→h'.get? a=some o:=fun a o n e=>hs'.extBut a o n e
    have y6:Stp Z.X (fun a=>Z.X.V a∧a≠Da) s5 { s5 with heap:=h' }:=⟨fun a o n e=>k6 a o n.2 e,fun g=>V.K.Gk _ _ (fun a=>a=Da) g (fun a q=>q▸⟨c.dn.2,_,l5,lst_code⟩) k6,fun _ _ _ e=>e,id,rfl⟩
    exact ⟨_,less,W',i+1,done++[p],rest',vs++[v'],⟨rfl,hlt⟩,M5.push c l6 k6 r5 (I.keep W' (i+1) s5 _ _ M5.st y6 (fun a w=>⟨.inl (M5.wo a w).2.1,(M5.wo a w).2.2.1⟩) fun a o k e=>⟨k,fun u=>none_at (old a (.inr u)) ⟨o,e⟩⟩) y6,e4,by rw [List.append_assoc]; exact (congrArg (done++·) e5).trans hd⟩
 ·obtain ⟨n,o,q,_⟩:=I.mutd _ _ _ I.start a w
  exact ⟨⟨I.new a w,o,x₄ a o q⟩,n,fun h=>none_at (old a (.inr h)) ⟨o,q⟩,fun h=>none_at (old a (.inl h)) ⟨o,q⟩⟩
end
end Mine
end
section
open PySem PySem.W PyProof.Rows
namespace Mine
section
variable {sc:SC} {Z:Fr} {σ:List Slot} {ws:Nat→Option Value} {s s':Shared}
theorem onFits {ys zs:List PV} {P:Prop} (e:(bif fits ys.length then some ys else none)=some zs) (k:ys.length≤1000000→ys=zs→P):P:=by
 cases h:fits ys.length with
 | true=>rw [h] at e; exact k (fits_le h) (Option.some.inj e)
 | false=>rw [h] at e; exact no e
theorem Cp.core (c:Cp sc) {ys:List PV} (V:Ev Z sc σ ws s) (e:c.ev Z.Φ σ=some ys) {p:Pos} {use:Option (Value→Sem Unit)} {Q:Value→Shared→Prop} {E:Value→Shared→Prop}
  (hQ:∀ (a:Addr) (vs:List Value) (n:Nat) (C:Addr) (m:Str→Option Value) (s':Shared),Stp Z.X Z.X.V s s'→s.heap.get? a=none→s.heap.get? C=none→a≠C→s'.heap.get? a=some (lstO vs n)→Mine.RepL s'.heap (fun b=>(Z.B b∧b≠C)∧b≠a) ys vs→s'.heap.Ns C m→Z.X.N≤a→Z.X.N≤C →
   compPost Z.X.M Z.Ar E use Q (.ref a) C (.ok .next) s') :
  wpAny Z.X.M Z.Ar (comprehension c.e c.scope Z.env p (newList []) false (eval c.it.e Z.env) use) Q E s:=by
 obtain ⟨hs,hc⟩:=both c.h
 obtain ⟨hk,hn⟩:=both hc
 have S:=scopeOk_is hs
 refine onBind e fun xs e1 e=>onBind e fun ys' e2 e=>onFits e fun hy he=>?_
 subst he
 refine wpAny_comprehension_free rfl (c.it.pl.fd _) (closure_ok V.EO S) S.kind (fun x hx hl=>lookup_of_mem S.nodup (hl▸hx)) ?_
 refine c.it.ok V e1 Z.X.V c.tg.tp V.sub (fun q=>by rw [q] at hn; exact hn) _ _ fun it' W₀ St s₂ x₂ I=>?_
 refine wpAny_newList (new_comp_env ?_)
 have V₂:=V.step x₂
 obtain ⟨N,hi,F,_,K⟩:=frame_ok (s₂.heap.push (lstO [] 0)) c.scope.names (.type "dict") (compVars c.scope)
 have DN:Z.X.N≤s₂.heap.objs.size:=V.K.size _ V₂.g
 have z:(s₂.heap.push (lstO [] 0)).objs.size=s₂.heap.objs.size+1:=Heap.size_push _ _
 have hi:∀ a,OfFrame (s₂.heap.push (lstO [] 0)).objs.size (cellsFrom ((s₂.heap.push (lstO [] 0)).objs.size+1) c.scope.names []) a→s₂.heap.objs.size < a:=fun a u=>Nat.lt_of_lt_of_le (z▸Nat.lt_succ_self _) (hi a u)
 have old:∀ {a},s₂.heap.objs.size≤a→s.heap.get? a=none:=fun l=>x₂.live (.inl (Nat.le_trans DN l)) (get_ge l)
 have x₄:Ext s₂.heap (pushCells ((s₂.heap.push (lstO [] 0)).push { cls:=.type "dict",data:=.dict #[] }) c.scope.names):=fun a o e=>K a o (Ext.push _ _ a o e)
 have y₄:Stp Z.X Z.X.V s₂ { s₂ with heap:=pushCells ((s₂.heap.push (lstO [] 0)).push { cls:=.type "dict",data:=.dict #[] }) c.scope.names }:=V₂.toBs.ext x₄
 have zC:s₂.heap.objs.size < (s₂.heap.push (lstO [] 0)).objs.size:=z▸Nat.lt_succ_self _
 have go:=comp_loop (elt:=c.elt) (ifs:=c.ifs) (iter:=c.it.e) (pos:=c.pos) (tk:=s₂.toks) (compVars_nodup S.nodup) (fun t m=>Nat.blt_eq.mp (List.all_eq_true.mp hk t m)) V x₂ I e2 hy
  ⟨V.toBs,N,fun a u=>⟨old (Nat.le_of_lt (hi a u)),Nat.le_trans DN (Nat.le_of_lt (hi a u))⟩,⟨old (Nat.le_refl _),DN⟩,fun u=>Nat.lt_irrefl _ (hi _ u)⟩ (fun a u=>get_ge (u.elim (fun u=>Nat.le_of_lt (hi a u)) fun u=>Nat.le_of_eq u.symm)) (comp_env_ok V.EO S) rfl
  (R:=compPost Z.X.M Z.Ar E use Q (.ref s₂.heap.objs.size) (s₂.heap.push (lstO [] 0)).objs.size) F x₄ (K _ _ (Heap.get?_push_size _ rfl)) fun vs s' x n l r=>n.elim fun m n=>l.elim fun k l =>
   hQ _ vs k _ m s' x (old (Nat.le_refl _)) (old (Nat.le_of_lt zC)) (Nat.ne_of_lt zC) l (Mine.RepL.move (fun a o b e=>⟨⟨⟨b.1.1,fun q=>b.1.2 (.inl q)⟩,b.2⟩,e⟩) r) n DN (Nat.le_trans DN (Nat.le_of_lt zC))
 exact codeAny_compStart_list go (I.self W₀ _ _ _ (I.keep _ _ _ _ _ I.start y₄ (fun a w=>.inl (I.mutd _ _ _ I.start a w).1) fun _ _ k _=>k) go)
theorem comp_end (V:Bs Z s) {C:Addr} {m:Str→Option Value} {h':Heap} (x:Stp Z.X Z.X.V s s') (hC:s.heap.get? C=none) (hN:Z.X.N≤C) (hm:s'.heap.Ns C m) (hs:Heap.SameBut C s'.heap h'):Stp Z.X Z.X.V s { s' with heap:=h' }:=by
 have nC:∀ a o,s.heap.get? a=some o→a≠C:=fun a o e q=>none_at (q▸hC) ⟨o,e⟩
 refine ⟨fun a o n e=>hs.extBut a o (nC a o e) (x.off a o n e),fun g=>V.K.Gk _ _ (fun a=>a=C) (x.G g) (fun a q=>q▸⟨hN,?_⟩) (fun a o n e=>hs.extBut a o n e),x.gens,x.bare,x.os⟩
 obtain ⟨o,e,n,_⟩:=(show At s'.heap _ (.loc C "") from ⟨m,hm,rfl⟩).live
 exact ⟨o,e,n⟩
noncomputable def SE.comp (c:Cp sc):SE sc:=⟨c.e,fun Φ σ=>(c.ev Φ σ).map .lst,⟨fun _ _=>rfl,fun op=>by cases op <;> rfl,fun _ _=>rfl⟩,
 fun {Z σ ws s p} V e Q E h=>onMap e fun ys e1 e2=>by
  subst e2
  unfold Cp.e
  rw [eval_ListComp]
  refine c.core (p:=firstIterPos [⟨c.tg.e,c.it.e,c.ifs.es,0⟩] c.pos) V e1 fun a vs n C m s' x ha hC hne hl hr hm hN hNC=>?_
  refine ⟨m,hm,fun h' hs=>h _ _ (comp_end V.toBs x hC hNC hm hs) (Rep.mkLst (V.fresh a hN ha) (hs.extBut _ _ hne hl) (Mine.RepL.move (fun b o k e=>⟨k.1.1,hs.extBut b o k.1.2 e⟩) hr))⟩⟩
end
end Mine
end
section
open PySem PySem.W PyProof.Rows
namespace Mine
inductive Out
 | next (σ:List Slot)
 | brk (σ:List Slot)
 | ret (p:PV)
def Fr.bu (Z:Fr) (B U:Addr→Prop):Fr:={ Z with B:=B,U:=U }
structure Ey (Z:Fr) (sc:SC) (σ:List Slot) (ws:Nat→Option Value) (s:Shared):Prop extends Ev Z sc σ ws s where
 al:Z.ls.length≤Z.ow
structure Ex (Z:Fr) (sc:SC) (σ:List Slot) (ws:Nat→Option Value) (s:Shared):Prop extends Ey Z sc σ ws s where
 to:∀ (i:Nat) (x:Str),isTo sc i x=true→i < Z.wr
def New (Z:Fr) (s:Shared) (a:Addr):Prop:=Z.X.N≤a∧s.heap.get? a=none
structure Grown (Z:Fr) (s s':Shared) (B U:Addr→Prop):Prop where
 x:Stp Z.X Z.K s s'
 hU:∀ a,U a→Z.U a∨New Z s a
 hB:∀ a,B a→Z.B a∨(Z.U a∨New Z s a)
 kB:∀ a o,Z.B a→s.heap.get? a=some o→B a
 al:∀ a,Z.U a→∃ o,s'.heap.get? a=some o
def Ends (Z:Fr) (sc:SC) (o:Out) (f:Flow) (s:Shared):Prop:=Out.casesOn (motive:=fun _=>Prop) o (fun σ=>f=.next∧∃ ws,Ex Z sc σ ws s) (fun σ=>f=.brk∧∃ ws,Ex Z sc σ ws s) (fun p=>∃ v,f=.ret v∧Z.Rep s.heap p v)
def Does (Z:Fr) (sc:SC) (s:Shared) (o:Out) (t:Sem Flow):Prop:=∀ (Q:Flow→Shared→Prop) (E:Value→Shared→Prop),(∀ f s' B U,Grown Z s s' B U→Ends (Z.bu B U) sc o f s'→Q f s')→wpAny Z.X.M Z.Ar t Q E s
section
variable {sc:SC} {Z:Fr} {σ σ':List Slot} {ws ws':Nat→Option Value} {s s' s'':Shared} {o:Out} {f:Flow} {t:Sem Flow} {Q:Flow→Shared→Prop} {E:Value→Shared→Prop} {B U B' U':Addr→Prop} {a:Addr}
theorem Ex.step (V:Ex Z sc σ ws s) (x:Stp Z.X Z.X.V s s'):Ex Z sc σ ws s':=⟨⟨V.toEv.step x,V.al⟩,V.to⟩
theorem Ex.val (V:Ex Z sc σ ws s) (D:Dy Z σ' ws' s'):Ex Z sc σ' ws' s':=⟨⟨⟨D,V.P,V.EO,V.nm⟩,V.al⟩,V.to⟩
theorem Dy.live (D:Dy Z σ ws s) (a:Addr) (u:Z.U a):∃ o,s.heap.get? a=some o:=(D.turn a u).2.imp fun _ q=>q.1
theorem Grown.of (x:Stp Z.X Z.K s s') (D:Dy Z σ ws s'):Grown Z s s' Z.B Z.U:=⟨x,fun _ u=>.inl u,fun _ b=>.inl b,fun _ _ b _=>b,D.live⟩
theorem New.back (n:New Z s' a) (x:Stp Z.X Z.K s s'):Z.U a∨New Z s a:=by
 by_cases u:Z.U a
 ·exact .inl u
 ·exact .inr ⟨n.1,x.live ⟨.inl n.1,u⟩ n.2⟩
theorem Grown.trans (g:Grown Z s s' B U) (D:Dy Z σ ws s) (h:Grown (Z.bu B U) s' s'' B' U'):Grown Z s s'' B' U' :=
 ⟨g.x.on h.x (fun a o k e=>⟨k.1,fun u=>(g.hU a u).elim k.2 fun n=>none_at n.2 ⟨o,e⟩⟩) g.x.size,fun a u=>(h.hU a u).elim (g.hU a) fun n=>New.back n g.x,
  fun a b=>(h.hB a b).elim (g.hB a) fun q=>.inr (q.elim (g.hU a) fun n=>New.back n g.x),fun a o b e=>h.kB a o (g.kB a o b e) (g.x.off a o ⟨D.sub a b,fun u=>D.dis a u b⟩ e),fun a u=>by
   by_cases q:U a
   ·exact h.al a q
   ·exact (g.al a u).imp fun o e=>h.x.off a o ⟨.inl (D.turn a u).1,q⟩ e⟩
theorem Does.after (V:Dy Z σ ws s) (g:Grown Z s s' B U) (d:Does (Z.bu B U) sc s' o t) (h:∀ f s'' B U,Grown Z s s'' B U→Ends (Z.bu B U) sc o f s''→Q f s''):wpAny Z.X.M Z.Ar t Q E s':=d Q E fun f s'' B' U' g' e=>h f s'' B' U' (g.trans V g') e
theorem Does.step (V:Dy Z σ ws s) (x:Stp Z.X Z.X.V s s') (d:Does Z sc s' o t) (h:∀ f s'' B U,Grown Z s s'' B U→Ends (Z.bu B U) sc o f s''→Q f s''):wpAny Z.X.M Z.Ar t Q E s':=Does.after (B:=Z.B) (U:=Z.U) V (.of x.toK (V.step x)) d h
structure SS (sc:SC) where
 st:Stmt
 ex:Fns→List Slot→Option Out
 ok:∀ {Z:Fr} {σ:List Slot} {ws:Nat→Option Value} {s:Shared} {o:Out},Ex Z sc σ ws s→ex Z.Φ σ=some o→Does Z sc s o (exec st Z.env)
structure SL (sc:SC) where
 sts:List Stmt
 ex:Fns→List Slot→Option Out
 ok:∀ {Z:Fr} {σ:List Slot} {ws:Nat→Option Value} {s:Shared} {o:Out},Ex Z sc σ ws s→ex Z.Φ σ=some o→Does Z sc s o (execs sts Z.env)
noncomputable def SL.nil:SL sc:=⟨[],fun _ σ=>some (.next σ),fun {Z σ ws s o} V e Q E h=>by
 obtain rfl:=Option.some.inj e
 exact wpAny_execs_nil (h .next s Z.B Z.U (.of .refl V.toDy) ⟨rfl,ws,V⟩)⟩
noncomputable def thenDo (o:Option Out) (g:List Slot→Option Out):Option Out:=o.bind fun o=>Out.casesOn (motive:=fun _=>Option Out) o g (fun σ=>some (.brk σ)) fun p=>some (.ret p)
noncomputable def SL.cons (a:SS sc) (r:SL sc):SL sc:=⟨a.st::r.sts,fun Φ σ=>thenDo (a.ex Φ σ) (r.ex Φ),fun {Z σ ws s o} V e Q E h=>onBind e fun o₁ e1 e2=>wpAny_execs_cons ((a.ok V e1) _ _ fun f s₁ B U g e3=>by
 cases o₁ with
 | next σ₁ =>
  obtain ⟨rfl,ws₁,V₁⟩:=e3
  exact Does.after V.toDy g (r.ok V₁ e2) h
 | brk σ₁ =>
  obtain rfl:=Option.some.inj e2
  obtain ⟨rfl,_⟩:=id e3
  exact h _ s₁ B U g e3
 | ret p =>
  obtain rfl:=Option.some.inj e2
  obtain ⟨v,rfl,_⟩:=id e3
  exact h _ s₁ B U g e3)⟩
end
end Mine
end
section
open PySem PySem.W PyProof.Rows
namespace Mine
section
variable {sc:SC} {Z:Fr} {σ σ':List Slot} {ws ws':Nat→Option Value} {s s' s'':Shared} {o:Out} {f:Flow} {t:Sem Flow} {Q:Flow→Shared→Prop} {E:Value→Shared→Prop} {B U B' U':Addr→Prop}
theorem goesOn (V:Ex Z sc σ ws s) (x:Stp Z.X Z.K s s') (D:Dy Z σ' ws' s') (h:∀ f s' B U,Grown Z s s' B U→Ends (Z.bu B U) sc (.next σ') f s'→Q f s'):Q .next s':=h .next s' Z.B Z.U (.of x D) ⟨rfl,ws',V.val D⟩
theorem Ex.tos (V:Ex Z sc σ ws s) {ts:List Tg} (h:ts.all (Tg.ok sc)=true):∀ t∈ts,t.i < Z.wr:=fun t m=>V.to t.i t.x (List.all_eq_true.mp h t m)
noncomputable def SS.set (t:Tg) (v:SE sc) (pos:Pos) (h:t.ok sc=true) (hs:∀ env:Env,env.scope.kind=.function→env.scope.names=sc.N→swapsWith v.e (some (.Name t.x t.p)) pos.line env=pure false):SS sc:=⟨.Assign [t.e] v.e pos,fun Φ σ=>(v.ev Φ σ).map fun p=>.next (σ.set t.i (.val p)),
 fun {Z σ ws s o} V e Q E q=>onMap e fun p e1 e2=>by
  subst e2
  exact wpAny_Assign_Name (v.go V.toEv e1 fun w s₁ x₁ V₁ r₁=>storeV V₁.toDy V.EO h (V.to _ _ h) r₁ fun ws' s₂ x₂ D₂=>goesOn V (x₁.toK.trans x₂) D₂ q) (hs _ V.EO.kind V.EO.names)⟩
noncomputable def setAllS (p:PV):List Tg→List Slot→List Slot
 | [],σ=>σ
 | t::ts,σ=>setAllS p ts (σ.set t.i (.val p))
theorem setAllW (V:Ex Z sc σ ws s) {p:PV} {v:Value} {Q:Unit→Shared→Prop}:∀ (ts:List Tg) (σ:List Slot) (ws:Nat→Option Value) (s:Shared),Dy Z σ ws s→ts.all (Tg.ok sc)=true→(∀ t∈ts,t.i < Z.wr)→Z.Rep s.heap p v →
  (∀ ws' s',Stp Z.X Z.K s s'→Dy Z (setAllS p ts σ) ws' s'→Q () s')→wpAny Z.X.M Z.Ar (assignAll v ((assignEach (ts.map Tg.e) Z.env).map (·.2))) Q E s
 | [],σ,ws,s,D,_,_,_,h=>wpAny_pure (h ws s .refl D)
 | [t],σ,ws,s,D,ho,hw,r,h=>wpAny_assign_Name (storeV D V.EO (both ho).1 (hw t List.mem_cons_self) r h)
 | t::u::ts,σ,ws,s,D,ho,hw,r,h=>by
  show wpAny _ _ (do holding [v] (assign t.e Z.env v); assignAll v ((assignEach ((u::ts).map Tg.e) Z.env).map (·.2))) Q E s
  exact wpAny_bind (wpAny_holding (wpAny_assign_Name (storeV D V.EO (both ho).1 (hw t List.mem_cons_self) r fun ws₁ s₁ x₁ D₁ =>
   setAllW V (u::ts) _ ws₁ s₁ D₁ (both ho).2 (fun t m=>hw t (List.mem_cons_of_mem _ m)) (r.stpK D x₁) fun ws₂ s₂ x₂ D₂=>h ws₂ s₂ (x₁.trans x₂) D₂)))
noncomputable def SS.setAll (t u:Tg) (ts:List Tg) (v:SE sc) (pos:Pos) (h:(t::u::ts).all (Tg.ok sc)=true):SS sc:=⟨.Assign ((t::u::ts).map Tg.e) v.e pos,fun Φ σ=>(v.ev Φ σ).map fun p=>.next (setAllS p (t::u::ts) σ),
 fun {Z σ ws s o} V e Q E q=>onMap e fun p e1 e2=>by
  subst e2
  exact wpAny_Assign_stores (v.go V.toEv e1 fun w s₁ x₁ V₁ r₁=>setAllW (V.step x₁) (t::u::ts) σ ws s₁ V₁.toDy h (V.tos h) r₁ fun ws' s₂ x₂ D₂=>goesOn V (x₁.toK.trans x₂) D₂ q) rfl rfl⟩
noncomputable def SS.many (tp:Bool) (ts:List Tg) (k:Nat) (pp:Pos) (v:SE sc) (pos:Pos) (h:ts.all (Tg.ok sc)=true) (hs:∀ env:Env,env.scope.kind=.function→env.scope.names=sc.N→swappedStores [.Tuple (ts.map Tg.e) k pp] v.e env=pure none):SS sc:=⟨.Assign [.Tuple (ts.map Tg.e) k pp] v.e pos,fun Φ σ=>(v.ev Φ σ).bind fun p=>(bif tp then p.tup? else p.lst?).bind fun ps=>(setL ts ps σ).map .next,
 fun {Z σ ws s o} V e Q E q=>onBind e fun p e1 e=>onBind e fun ps e2 e=>onMap e fun σ' e3 e4=>by
  subst e4
  refine wpAny_Assign_stores (v.go V.toEv e1 fun w s₁ x₁ V₁ r₁=>?_) (by cases v.e <;> rfl) (hs _ V.EO.kind V.EO.names)
  show wpAny _ _ (assign (.Tuple (ts.map Tg.e) k pp) Z.env w) _ _ _
  rw [arm_assign_Tuple]
  refine wpAny_bind (wpAny_standAt (unpackTo V₁.toDy V.EO h (V.tos h) e3 ?_ fun ws' s₂ x₂ D₂=>goesOn V (x₁.toK.trans x₂) D₂ q))
  cases tp with
  | true =>
   rw [PV.is_tup e2] at r₁
   exact Mine.Rep.onTup r₁ (M:=fun v=>∃ a vs,v=.ref a∧(s₁.heap.IsTuple a vs.toArray∨s₁.heap.IsList a vs.toArray)∧Z.RepL s₁.heap ps vs) fun a n vs _ g rl=>⟨a,vs,rfl,.inl (tup_is g),rl⟩
  | false =>
   rw [PV.is_lst e2] at r₁
   exact Mine.Rep.onLst r₁ (M:=fun v=>∃ a vs,v=.ref a∧(s₁.heap.IsTuple a vs.toArray∨s₁.heap.IsList a vs.toArray)∧Z.RepL s₁.heap ps vs) fun a n vs _ g rl=>⟨a,vs,rfl,.inr (lst_is g),rl⟩⟩
noncomputable def SS.ret (v:SE sc) (pos:Pos):SS sc:=⟨.Return (some v.e) pos,fun Φ σ=>(v.ev Φ σ).map .ret,
 fun {Z σ ws s o} V e Q E q=>onMap e fun p e1 e2=>by
  subst e2
  exact wpAny_Return_some (v.go V.toEv e1 fun w s₁ x₁ V₁ r₁=>q _ s₁ Z.B Z.U (.of x₁.toK V₁.toDy) ⟨w,rfl,r₁⟩)⟩
noncomputable def SS.brk (pos:Pos):SS sc:=⟨.Break pos,fun _ σ=>some (.brk σ),fun {Z σ ws s o} V e Q E q=>by
 obtain rfl:=Option.some.inj e
 exact wpAny_Break (q _ s Z.B Z.U (.of .refl V.toDy) ⟨rfl,ws,V⟩)⟩
noncomputable def SS.ite (t:SB sc) (a b:SL sc) (pos:Pos):SS sc:=⟨.If t.e a.sts b.sts pos,fun Φ σ=>(t.ev Φ σ).bind fun k=>bif k then a.ex Φ σ else b.ex Φ σ,
 fun {Z σ ws s o} V e Q E q=>onBind e fun k e1 e2=>wpAny_If (t.go V.toEv e1 fun s₁ x₁ V₁=>by
  cases k with
  | true=>exact Does.step V.toDy x₁ (a.ok (V.step x₁) e2) q
  | false=>exact Does.step V.toDy x₁ (b.ok (V.step x₁) e2) q)⟩
end
end Mine
end
section
open PySem PySem.W PyProof.Rows
namespace Mine
section
variable {prog:Program} {w:World} {Ar:Around} {s:Shared} {E:Value→Shared→Prop} {l b:Addr} {vs ws:List Value} {n k:Nat} {h:Heap}
theorem turn_list {f:Array Value→Array Value} (hf:f vs.toArray=ws.toArray) (hl:h.get? l=some (lstO vs n)):∃ n',(h.update l (Obj.mapSeq f)).get? l=some (lstO ws n'):=by
 have:∃ n',Obj.mapSeq f (lstO vs n)=lstO ws n':=by
  unfold Obj.mapSeq
  simp only [hf]
  exact ⟨_,rfl⟩
 obtain ⟨n',e⟩:=this
 exact ⟨n',by rw [Heap.get?_update_self _ hl (by rw [e]; rfl),e]⟩
theorem set_list {i:Int} {t:Tok} {v:Value} {Q:Unit→Shared→Prop} (hl:s.heap.get? l=some (lstO vs n)) (h0:0≤i) (hs:i < 2 ^ 63) (hi:i < vs.length)
  (h:∀ h' n',h'.get? l=some (lstO (vs.set i.toNat v) n')→Heap.SameBut l s.heap h'→Q () { s with heap:=h' }):wpAny (model prog w) Ar (setItem (.ref l) (.int i t) v) Q E s:=by
 obtain ⟨n',e⟩:=turn_list (f:=(·.setIfInBounds i.toNat v)) (ws:=vs.set i.toNat v) (by simp) hl
 exact ki_setAt hl h0 hs (by simpa using hi) (h _ n' e (Heap.SameBut.update ..))
theorem app_list {v:Value} {Q:Value→Shared→Prop} (hl:s.heap.get? l=some (lstO vs n)) (hz:vs.length≤1000000)
  (h:∀ h' n',h'.get? l=some (lstO (vs++[v]) n')→Heap.SameBut l s.heap h'→Q .none { s with heap:=h' }):wpAny (model prog w) Ar (call (.builtin "list.append") [.ref l,v]) Q E s :=
 wpAny_list_append_plain (items:=vs.toArray) ⟨n,hl⟩ (fun h' hl' hs'=>hl'.elim fun n' e=>h h' n' (by rw [e,List.push_toArray]) hs') (by rw [List.size_toArray]; exact le_line hz)
theorem rev_list {Q:Value→Shared→Prop} (hl:s.heap.get? l=some (lstO vs n)) (hz:vs.length≤1000000)
  (h:∀ h' n',h'.get? l=some (lstO vs.reverse n')→Heap.SameBut l s.heap h'→Q .none { s with heap:=h' }):wpAny (model prog w) Ar (call (.builtin "list.reverse") [.ref l]) Q E s:=by
 obtain ⟨n',e⟩:=turn_list (f:=fun x=>x.reverse) (ws:=vs.reverse) (by simp) hl
 refine call_meets F.slot_list_reverse ⟨_,hl,rfl⟩ F.entry_list_reverse (F.args_list_reverse_1 _) (AutoSeq1.list_reverse_list_0 l vs.toArray n (by rw [List.size_toArray]; exact le_line hz)) ⟨hl,?_⟩
 exact h _ n' e (Heap.SameBut.update ..)
end
structure OwnAt (Z:Fr) (ws:Nat→Option Value) (s:Shared) (i:Nat) (xs:List PV) (a:Addr) (vs:List Value) (n:Nat):Prop where
 hh:ws i=some (.ref a)
 hN:Z.X.N≤a
 ha:s.heap.get? a=some (lstO vs n)
 hr:Z.RepL s.heap xs vs
 hu:Z.U a
section
variable {sc:SC} {Z:Fr} {σ σ':List Slot} {ws ws':Nat→Option Value} {s s' s'':Shared} {o:Out} {Q:Flow→Shared→Prop} {E:Value→Shared→Prop} {B U B' U':Addr→Prop} {i:Nat} {xs ys:List PV} {a:Addr} {vs us:List Value} {n k tk:Nat} {h':Heap}
theorem Ex.own (V:Ex Z sc σ ws s) (e:slotO σ i=some xs) {P:Prop} (k:∀ a vs n,OwnAt Z ws s i xs a vs n→P):P:=by
 obtain ⟨v,vs,h1,⟨a,n,rfl,h2,h3⟩,h4⟩:=V.ok i _ (slotO_is e)
 refine k a vs n ⟨h1,h2,h3,h4,V.ownU i (.l xs) a (Nat.lt_of_lt_of_le ?_ V.al) (slotO_is e) h1⟩
 rw [V.len]; exact (List.getElem?_eq_some_iff.mp (slotO_is e)).1
theorem OwnAt.step (O:OwnAt Z ws s i xs a vs n) (V:Bs Z s) (x:Stp Z.X Z.X.V s s'):OwnAt Z ws s' i xs a vs n:=⟨O.hh,O.hN,x.off _ _ (.inl O.hN) O.ha,O.hr.stp V.sub x,O.hu⟩
theorem Dy.far (D:Dy Z σ ws s) (ha:s.heap.get? a=some (lstO vs n)):FarFrom Z a :=
 ⟨fun l m=>by
  obtain ⟨j,e⟩:=List.mem_iff_getElem?.mp m
  exact (D.pl j l e).notLst ha,fun q=>D.nsl.2.elim fun m h=>(show At s.heap _ (.loc Z.env.locals "") from ⟨m,h,rfl⟩).notLst ha q⟩
theorem own_turnC {c c':Cont} (D:Dy Z σ ws s) (hh:ws i=some (.ref a)) (hN:Z.X.N≤a) (hu:Z.U a) (far:FarFrom Z a) (hx:σ[i]?=some (.own c)) (hs:Heap.SameBut a s.heap h') (old:∃ o,s.heap.get? a=some o∧NotCode o) (new:∃ o,h'.get? a=some o∧NotCode o)
  (hc:(∀ b o,Z.B b→s.heap.get? b=some o→Z.B b∧h'.get? b=some o)→ContV Z h' (some (.ref a)) c') :
  Stp Z.X Z.K s { s with heap:=h',toks:=tk }∧Dy Z (σ.set i (.own c')) ws { s with heap:=h',toks:=tk }:=by
 have kp:∀ b o,b≠a→s.heap.get? b=some o→h'.get? b=some o:=fun b o n e=>hs.extBut b o n e
 have G:Z.X.G s.heap→Z.X.G h':=fun g=>D.K.Gk _ _ (fun b=>b=a) g (fun b q=>q▸⟨hN,old⟩) kp
 have kB:∀ b o,Z.B b→s.heap.get? b=some o→Z.B b∧h'.get? b=some o:=fun b o q e=>⟨q,kp b o (fun z=>D.dis _ hu (z▸q)) e⟩
 have hi:i < σ.length:=(List.getElem?_eq_some_iff.mp hx).1
 have own:∀ (j:Nat) (zs:Cont),(σ.set i (.own c'))[j]?=some (.own zs)→∃ zs',σ[j]?=some (.own zs'):=fun j zs e=>by
  by_cases q:i=j
  ·exact ⟨c,q▸hx⟩
  ·rw [List.getElem?_set_ne q] at e; exact ⟨zs,e⟩
 refine ⟨⟨fun b o k e=>kp b o (fun q=>k.2 (q▸hu)) e,G,fun _ _ _ e=>e,id,rfl⟩,{ K:=D.K,R:=D.R,g:=G D.g,fresh:=fun b n e=>D.fresh b n ?_,sub:=D.sub,dis:=D.dis,turn:=fun b u=>⟨(D.turn b u).1,?_⟩,len:=by rw [List.length_set]; exact D.len,pl:=fun j l e=>(D.pl j l e).keep fun ob eo=>kp _ ob (fun q=>far.1 l (List.mem_of_getElem? e) q.symm) eo,hi:=D.hi,ok:=fun j t e=>?_,mine:=D.mine,ownU:=fun j zs c hj e e2=>(own j zs e).elim fun zs' e=>D.ownU j zs' c hj e e2,apart:=D.apart,nsl:=⟨D.nsl.1,D.nsl.2.imp fun m q=>q.at' fun o e=>kp _ o (fun z=>far.2 z.symm) e⟩,once:=fun j j' zs zs' e1 e2 e3=>(own j zs e1).elim fun y1 e1=>(own j' zs' e2).elim fun y2 e2=>D.once j j' y1 y2 e1 e2 e3 }⟩
 ·cases q:s.heap.get? b with
  | none=>rfl
  | some o =>
   by_cases z:b=a
   ·exact none_at e (z▸new.imp fun _ q=>q.1)
   ·exact none_at e ⟨o,kp b o z q⟩
 ·by_cases z:b=a
  ·exact z▸new
  ·exact (D.turn b u).2.imp fun o q=>⟨kp b o z q.1,q.2⟩
 ·by_cases q:i=j
  ·rw [← q,List.getElem?_set_self hi] at e
   rw [← Option.some.inj e,← q,hh]
   exact hc kB
  ·rw [List.getElem?_set_ne q] at e
   have z:=D.ok j t e
   cases t with
   | unset=>trivial
   | val p=>exact z.imp fun v z=>⟨z.1,Mine.Rep.move z.2 kB⟩
   | own zs=>exact ContV.move z rfl kB (fun b _ vs n _ eo _ e1=>kp b _ (fun y=>q (D.once i j c zs hx e (hh.trans (y▸eo.symm)))) e1) fun b ob _ _ _ eo _ f e1=>⟨f,kp b ob (fun y=>q (D.once i j c zs hx e (hh.trans (y▸eo.symm)))) e1⟩
   | is v=>exact z
   | fn v=>exact z
theorem own_turn (D:Dy Z σ ws s) (O:OwnAt Z ws s i xs a vs n) (hx:σ[i]?=some (.own (.l xs))) (hs:Heap.SameBut a s.heap h') (ha':h'.get? a=some (lstO us k)) (hr:Z.RepL s.heap ys us) :
  Stp Z.X Z.K s { s with heap:=h',toks:=tk }∧Dy Z (σ.set i (.own (.l ys))) ws { s with heap:=h',toks:=tk } :=
 own_turnC D O.hh O.hN O.hu (D.far O.ha) hx hs ⟨_,O.ha,lst_code⟩ ⟨_,ha',lst_code⟩ fun kB=>⟨_,us,rfl,⟨a,k,rfl,O.hN,ha'⟩,Mine.RepL.move kB hr⟩
theorem own_freezeC {c:Cont} {p:PV} (D:Dy Z σ ws s) (hh:ws i=some (.ref a)) (hN:Z.X.N≤a) (far:FarFrom Z a) (hx:σ[i]?=some (.own c)) (hp:∀ B:Addr→Prop,B a→(∀ b o,Z.B b→s.heap.get? b=some o→B b)→Mine.Rep s.heap B p (.ref a)) :
  Dy (Z.bu (fun b=>Z.B b∨b=a) (fun b=>Z.U b∧b≠a)) (σ.set i (.val p)) ws s:=by
 have hi:i < σ.length:=(List.getElem?_eq_some_iff.mp hx).1
 have kB:∀ b o,Z.B b→s.heap.get? b=some o→(Z.B b∨b=a)∧s.heap.get? b=some o:=fun b o q e=>⟨.inl q,e⟩
 have own:∀ (j:Nat) (zs:Cont),(σ.set i (.val p))[j]?=some (.own zs)→i≠j∧σ[j]?=some (.own zs):=fun j zs e=>by
  by_cases q:i=j
  ·rw [← q,List.getElem?_set_self hi] at e; exact nomatch e
  ·rw [List.getElem?_set_ne q] at e; exact ⟨q,e⟩
 refine { K:=D.K,R:=D.R,g:=D.g,fresh:=fun b n e=>.inl (D.fresh b n e),sub:=fun b q=>q.elim (D.sub b) fun q=>.inl (q▸hN),dis:=fun b u q=>q.elim (D.dis b u.1) u.2,turn:=fun b u=>D.turn b u.1,len:=by rw [List.length_set]; exact D.len,pl:=D.pl,hi:=D.hi,ok:=fun j t e=>?_,mine:=fun j l h e=>⟨D.mine j l h e,fun q=>far.1 l (List.mem_of_getElem? e) q.symm⟩,ownU:=fun j zs c' hj e e2=>⟨D.ownU j zs c' hj (own j zs e).2 e2,fun q=>(own j zs e).1 (D.once i j c zs hx (own j zs e).2 (hh.trans (by rw [e2,q])))⟩,apart:=D.apart,nsl:=D.nsl,once:=fun j j' zs zs' e1 e2 e3=>D.once j j' zs zs' (own j zs e1).2 (own j' zs' e2).2 e3 }
 by_cases q:i=j
 ·rw [← q,List.getElem?_set_self hi] at e
  rw [← Option.some.inj e,← q]
  exact ⟨_,hh,hp _ (.inr rfl) fun b o q _=>.inl q⟩
 ·rw [List.getElem?_set_ne q] at e
  have z:=D.ok j t e
  cases t with
  | unset=>trivial
  | val p=>exact z.imp fun v z=>⟨z.1,Mine.Rep.move z.2 kB⟩
  | own zs=>exact ContV.move z rfl kB (fun _ _ _ _ _ _ _ e=>e) fun _ _ _ _ _ _ _ f e=>⟨⟨f.1,f.2⟩,e⟩
  | is v=>exact z
  | fn v=>exact z
theorem own_freeze (D:Dy Z σ ws s) (O:OwnAt Z ws s i xs a vs n) (hx:σ[i]?=some (.own (.l xs))) :
  Dy (Z.bu (fun b=>Z.B b∨b=a) (fun b=>Z.U b∧b≠a)) (σ.set i (.val (.lst xs))) ws s :=
 own_freezeC D O.hh O.hN (D.far O.ha) hx fun B b k=>Rep.mkLst b O.ha (Mine.RepL.move (fun b o q e=>⟨k b o q e,e⟩) O.hr)
noncomputable def SL.freeze (i:Nat) (r:SL sc):SL sc:=⟨r.sts,fun Φ σ=>(slotO σ i).bind fun xs=>r.ex Φ (σ.set i (.val (.lst xs))),
 fun {Z σ ws s o} V e Q E h=>onBind e fun xs e1 e2=>V.own e1 fun a vs n O=>Does.after V.toDy (B:=fun b=>Z.B b∨b=a) (U:=fun b=>Z.U b∧b≠a) ⟨.refl,fun b u=>.inl u.1,fun b q=>Or.imp id (fun (q:b=a)=>.inl (q▸O.hu)) q,fun b o q _=>.inl q,V.live⟩ (r.ok (Z:=Z.bu _ _) ⟨⟨⟨own_freeze V.toDy O (slotO_is e1),V.P,V.EO,V.nm⟩,V.al⟩,V.to⟩ e2) h⟩
end
end Mine
end
section
open PySem PySem.W PyProof.Rows
namespace Mine
structure Apart (Z:Fr) (σ:List Slot) (ws:Nat→Option Value) (Y:Addr→Prop):Prop where
 ls:∀ l∈Z.ls,¬ Y l.addr
 nl:¬ Y Z.env.locals
 own:∀ (i:Nat) (xs:Cont) (a:Addr),σ[i]?=some (.own xs)→ws i=some (.ref a)→¬ Y a
section
variable {sc:SC} {Z:Fr} {σ σ':List Slot} {ws ws':Nat→Option Value} {s s' s₁:Shared} {o:Out} {Q:Flow→Shared→Prop} {E:Value→Shared→Prop} {B U B' U' Y W:Addr→Prop} {i:Nat} {xs ys:List PV} {a C:Addr} {vs us:List Value} {n k tk:Nat} {h':Heap} {m:Str→Option Value}
theorem Dy.to (D:Dy Z σ ws s) (A:Apart Z σ ws Y) (g:Z.X.G s'.heap) (fresh:∀ a,Z.X.N≤a→s'.heap.get? a=none→B' a) (sub:∀ a,B' a→Z.X.V a) (dis:∀ a,U' a→¬ B' a) (turn:∀ a,U' a→Mut Z.X.N s'.heap a)
  (kB:∀ a o,Z.B a→s.heap.get? a=some o→B' a∧s'.heap.get? a=some o) (kN:∀ a o,Z.X.N≤a→¬ Y a→s.heap.get? a=some o→s'.heap.get? a=some o) (hU:∀ a,Z.U a→U' a):Dy (Z.bu B' U') σ ws s' :=
 {K:=D.K,R:=D.R,g:=g,fresh:=fresh,sub:=sub,dis:=dis,turn:=turn,len:=D.len,hi:=D.hi,apart:=D.apart,once:=D.once
  pl:=fun i l e=>(D.pl i l e).keep fun o q=>kN _ o (D.hi l (List.mem_of_getElem? e)) (A.ls l (List.mem_of_getElem? e)) q
  mine:=fun i l h e=>hU _ (D.mine i l h e)
  ownU:=fun i xs a h e q=>hU _ (D.ownU i xs a h e q)
  nsl:=⟨D.nsl.1,D.nsl.2.imp fun m q=>q.at' fun o e=>kN _ o D.nsl.1 A.nl e⟩
  ok:=fun i t e=>by
   have q:=D.ok i t e
   cases t with
   | unset=>trivial
   | val p=>exact q.imp fun v q=>⟨q.1,Mine.Rep.move q.2 kB⟩
   | own c=>exact ContV.move q rfl kB (fun a _ vs n _ eo u e1=>kN a _ u (A.own i c a e eo) e1) fun a ob _ _ _ eo u f e1=>⟨⟨f.1,f.2⟩,kN a ob u (A.own i c a e eo) e1⟩
   | fn v=>exact q
   | is v=>exact q }
theorem Apart.none:Apart Z σ ws fun _=>False:=⟨fun _ _ q=>q,fun q=>q,fun _ _ _ _ _ q=>q⟩
theorem Dy.claim (D:Dy Z σ ws s) (x:Stp Z.X Z.X.V s s₁) (hY:∀ a,Y a→s.heap.get? a=none∧∃ o,s₁.heap.get? a=some o) (hW:∀ a,W a→Y a∧Mut Z.X.N s₁.heap a):Dy (Z.bu (fun b=>Z.B b∧¬ Y b) (fun b=>Z.U b∨W b)) σ ws s₁ :=
 D.to .none (x.G D.g) (fun a n e=>⟨D.fresh a n (x.live (.inl n) e),fun q=>none_at e (hY a q).2⟩) (fun a b=>D.sub a b.1) (fun a u b=>u.elim (fun u=>D.dis a u b.1) fun w=>b.2 (hW a w).1)
  (fun a u=>u.elim (fun u=>(D.step x).turn a u) fun w=>(hW a w).2) (fun a o b e=>⟨⟨b,fun q=>none_at (hY a q).1 ⟨o,e⟩⟩,x.off a o (D.sub a b) e⟩) (fun a o n _ e=>x.off a o (.inl n) e) fun a u=>.inl u
theorem ns_code (hm:s.heap.Ns C m):∃ o,s.heap.get? C=some o∧NotCode o∧∀ vs n,o≠lstO vs n:=(show At s.heap _ (.loc C "") from ⟨m,hm,rfl⟩).live
theorem Dy.drop (D:Dy Z σ ws s) (hN:Z.X.N≤C) (hm:s.heap.Ns C m) (hB:¬ Z.B C) (hU:¬ Z.U C) (hl:∀ l∈Z.ls,l.addr≠C) (hn:Z.env.locals≠C) (hD:∀ (i:Nat) (ks:List Int) (xs:List PV),σ[i]?=some (.own (.d ks xs))→ws i≠some (.ref C)) (hs:Heap.SameBut C s.heap h') :
  Dy (Z.bu (fun b=>Z.B b∨b=C) Z.U) σ ws { s with heap:=h',toks:=tk }∧Stp Z.X (fun a=>Z.X.V a∧a≠C) s { s with heap:=h',toks:=tk }:=by
 obtain ⟨oc,e,nc,nl⟩:=ns_code hm
 have kp:∀ b o,b≠C→s.heap.get? b=some o→h'.get? b=some o:=fun b o n e=>hs.extBut b o n e
 have G:Z.X.G s.heap→Z.X.G h':=fun g=>D.K.Gk _ _ (fun a=>a=C) g (fun a q=>q▸⟨hN,oc,e,nc⟩) kp
 have A:Apart Z σ ws (fun a=>a=C):=⟨hl,hn,fun i xs a e1 e2 q=>by
  cases xs with
  | d ks xs=>exact hD i ks xs e1 (q▸e2)
  | l xs =>
  obtain ⟨v,vs,h1,⟨a',n,rfl,h2,h3⟩,h4⟩:=D.ok i _ e1
  obtain rfl:a'=a:=by rw [h1] at e2; injection e2 with e2; injection e2
  rw [q,e] at h3
  exact nl _ _ (Option.some.inj h3)⟩
 exact ⟨D.to (s':={ s with heap:=h',toks:=tk }) A (G D.g) (fun a n e=>by
   cases z:s.heap.get? a with
   | none=>exact .inl (D.fresh a n z)
   | some o =>
    by_cases c:a=C
    ·exact .inr c
    ·exact none_at e ⟨o,kp a o c z⟩) (fun a q=>q.elim (D.sub a) fun q=>.inl (q▸hN)) (fun a u q=>q.elim (D.dis a u) fun q=>hU (q▸u))
  (fun a u=>⟨(D.turn a u).1,(D.turn a u).2.imp fun o q=>⟨kp a o (fun q=>hU (q▸u)) q.1,q.2⟩⟩) (fun a o b e=>⟨.inl b,kp a o (fun q=>hB (q▸b)) e⟩) (fun a o _ n e=>kp a o n e) fun a u=>u,
  fun a o k e=>kp a o k.2 e,G,fun _ _ _ e=>e,id,rfl⟩
end
end Mine
end
section
open PySem PySem.W PyProof.Rows
namespace Mine
def GetsF (Z:Fr) (s:Shared) (xs:List PV) (t:Sem Value):Prop:=∀ (Q:Value→Shared→Prop) (E:Value→Shared→Prop),(∀ a vs n s',Stp Z.X Z.X.V s s'→s.heap.get? a=none→Z.X.N≤a→s'.heap.get? a=some (lstO vs n)→Mine.RepL s'.heap (fun b=>Z.B b∧b≠a) xs vs→Q (.ref a) s')→wpAny Z.X.M Z.Ar t Q E s
structure SO (sc:SC) where
 e:Expr
 ev:Fns→List Slot→Option (List PV)
 ok:∀ {Z:Fr} {σ:List Slot} {ws:Nat→Option Value} {s:Shared} {xs:List PV},Ev Z sc σ ws s→ev Z.Φ σ=some xs→GetsF Z s xs (eval e Z.env)
section
variable {sc:SC} {Z:Fr} {σ σ':List Slot} {ws ws':Nat→Option Value} {s s' s₁:Shared} {o:Out} {Q:Flow→Shared→Prop} {E:Value→Shared→Prop} {i:Nat} {xs ys:List PV} {a:Addr} {vs:List Value} {n:Nat}
noncomputable def SO.lst (as:List (SE sc)) (p:Pos):SO sc:=⟨.List (exprs as) p,fun Φ σ=>(evL Φ σ as).bind fun ps=>bif fits ps.length then some ps else .none,
 fun {Z σ ws s xs} V e Q E q=>onBind e fun ps e1 e=>onFits e fun hy he=>wpAny_List (evL_ok V e1 fun vs s₁ x₁ V₁ rl=>⟨rl.len▸le_line hy,by
  subst he
  have z:s.heap.get? s₁.heap.objs.size=none:=x₁.live (.inl (V₁.K.size _ V₁.g)) (get_size _)
  exact q _ vs 0 _ (x₁.trans V₁.toBs.push) z (V₁.K.size _ V₁.g) (Heap.get?_push_size _ rfl) (Mine.RepL.move (fun b o k e=>⟨⟨k,fun z=>none_at (z▸get_size _) ⟨o,e⟩⟩,Heap.get?_push_of_some _ e⟩) rl)⟩)⟩
theorem Dy.notOwn (V:Dy Z σ ws s) (ha:s.heap.get? a=none) {j:Nat} {c:Cont} (e:σ[j]?=some (.own c)):ws j≠some (.ref a):=fun q=>by
 cases c with
 | l ys =>
  obtain ⟨v,vs,h1,⟨c,n,rfl,h2,h3⟩,h4⟩:=V.ok j _ e
  rw [h1] at q
  injection q with q
  injection q with q
  exact none_at ha ⟨_,q▸h3⟩
 | d ks ys =>
  obtain ⟨c,vs,h1,h2,h3,h4⟩:=V.ok j _ e
  rw [h1] at q
  injection q with q
  injection q with q
  exact none_at ha (q▸h3.live)
theorem Dy.notU (V:Dy Z σ ws s) (ha:s.heap.get? a=none):¬ Z.U a:=fun u=>none_at ha ((V.turn a u).2.imp fun _ q=>q.1)
theorem Dy.notL (V:Dy Z σ ws s) (ha:s.heap.get? a=none):(∀ l∈Z.ls,l.addr≠a)∧Z.env.locals≠a:=⟨fun l m q=>by
 obtain ⟨i,e⟩:=List.mem_iff_getElem?.mp m
 obtain ⟨o,z,_⟩:=(V.pl i l e).live
 exact none_at ha ⟨o,q▸z⟩,fun q=>V.nsl.2.elim fun m h=>(ns_code h).elim fun o z=>none_at ha ⟨o,q▸z.1⟩⟩
theorem set_noD {C:Addr} {k:Nat} {u:Slot} {v:Value} (hu:∀ ks xs,u≠.own (.d ks xs)) (h:∀ (i:Nat) (ks:List Int) (xs:List PV),σ[i]?=some (.own (.d ks xs))→ws i≠some (.ref C)) (i:Nat) (ks:List Int) (xs:List PV) (e:(σ.set k u)[i]?=some (.own (.d ks xs))):setW ws k v i≠some (.ref C):=by
 by_cases q:i=k
 ·subst q
  have hi:=(List.getElem?_eq_some_iff.mp e).1
  rw [List.length_set] at hi
  rw [List.getElem?_set_self hi] at e
  exact absurd (Option.some.inj e) (hu ks xs)
 ·rw [setW_j q]
  rw [List.getElem?_set_ne (Ne.symm q)] at e
  exact h i ks xs e
noncomputable def SS.setOwn (t:Tg) (v:SO sc) (pos:Pos) (h:t.ok sc=true) (hs:∀ env,swapsWith v.e (some (.Name t.x t.p)) pos.line env=pure false):SS sc:=⟨.Assign [t.e] v.e pos,fun Φ σ=>(v.ev Φ σ).map fun xs=>.next (σ.set t.i (.own (.l xs))),
 fun {Z σ ws s o} V e Q E q=>onMap e fun xs e1 e2=>by
  subst e2
  refine wpAny_Assign_Name (v.ok V.toEv e1 _ _ fun a vs n s₁ x₁ ha hN hl hr=>?_) (hs _)
  have D₁:=V.claim x₁ (Y:=fun b=>b=a) (W:=fun b=>b=a) (fun b q=>q▸⟨ha,_,hl⟩) fun b q=>⟨q,q▸⟨hN,_,hl,lst_code⟩⟩
  refine store (Z:=Z.bu _ _) D₁ V.EO (t:=.own (.l xs)) h (V.to _ _ h) ⟨_,vs,rfl,⟨a,n,rfl,hN,hl⟩,hr⟩ (fun zs _=>⟨fun j ys _ e=>V.notOwn ha e,fun b z=>.inr (by injection z with z; exact z.symm)⟩) fun s₂ x₂ D₂=>?_
  exact q .next s₂ _ _ ⟨x₁.toK.on x₂ (fun b o k e=>⟨k.1,fun u=>u.elim k.2 fun z=>none_at (z▸ha) ⟨o,e⟩⟩) x₁.size,fun b u=>Or.imp id (fun (z:b=a)=>z▸⟨hN,ha⟩) u,fun b k=>.inl k.1,fun b o k e=>⟨k,fun z=>none_at (z▸ha) ⟨o,e⟩⟩,fun b u=>D₂.live b (.inl u)⟩ ⟨rfl,_,⟨⟨⟨D₂,V.P,V.EO,V.nm⟩,V.al⟩,V.to⟩⟩⟩
noncomputable def SS.setComp (ow:Bool) (t:Tg) (c:Cp sc) (pos:Pos) (h:t.ok sc=true) (hs:∀ env:Env,env.scope.kind=.function→env.scope.names=sc.N→swapsWith c.e (some (.Name t.x t.p)) pos.line env=pure true):SS sc:=⟨.Assign [t.e] c.e pos,fun Φ σ=>(c.ev Φ σ).map fun ys=>.next (σ.set t.i (bif ow then .own (.l ys) else .val (.lst ys))),
 fun {Z σ ws s o} V e Q E q=>onMap e fun ys e1 e2=>by
  subst e2
  show wpAny _ _ (exec (.Assign [.Name t.x t.p] c.e pos) Z.env) Q E s
  have hs:=hs Z.env V.EO.kind V.EO.names
  unfold Cp.e at hs ⊢
  rw [exec_Assign_Name_used _ _ _ _ hs]
  refine wpAny_bind (wpAny_standAt (wpAny_bind ?_))
  show wpAny _ _ (do let _ ← comprehension c.e c.scope Z.env (firstIterPos [⟨c.tg.e,c.it.e,c.ifs.es,0⟩] c.pos) (newList []) false (eval c.it.e Z.env) (some (assign (.Name t.x t.p) Z.env))) _ _ s
  refine wpAny_bind (wpAny_mono (c.core (Q:=fun _ s'=>Q .next s') V.toEv e1 (use:=some (assign (.Name t.x t.p) Z.env)) fun a vs n C m s₁ x₁ ha hC hne hl hr hnC hN hNC=>?_) (fun _ s' hq=>wpAny_pure (wpAny_pure hq)) fun _ _ e=>e)
  obtain ⟨oc,ec,nc,_⟩:=ns_code hnC
  have D₁:=V.claim x₁ (Y:=fun b=>b=C∨(ow=true∧b=a)) (W:=fun b=>ow=true∧b=a) (fun b q=>q.elim (fun q=>q▸⟨hC,oc,ec⟩) fun q=>q.2▸⟨ha,_,hl⟩) fun b q=>⟨.inr q,q.2▸⟨hN,_,hl,lst_code⟩⟩
  have hv:SlotV (Z.bu (fun b=>Z.B b∧¬ (b=C∨(ow=true∧b=a))) (fun b=>Z.U b∨(ow=true∧b=a))) s₁.heap (some (.ref a)) (bif ow then .own (.l ys) else .val (.lst ys)):=by
   cases ow with
   | true=>exact ⟨_,vs,rfl,⟨a,n,rfl,hN,hl⟩,Mine.RepL.move (fun b o k e=>⟨⟨k.1.1,fun q=>q.elim k.1.2 fun q=>k.2 q.2⟩,e⟩) hr⟩
   | false=>exact ⟨_,rfl,Rep.mkLst ⟨V.fresh a hN ha,fun q=>q.elim hne fun q=>nomatch q.1⟩ hl (Mine.RepL.move (fun b o k e=>⟨⟨k.1.1,fun q=>q.elim k.1.2 fun q=>k.2 q.2⟩,e⟩) hr)⟩
  refine wpAny_assign_Name (store (Z:=Z.bu _ _) D₁ V.EO h (V.to _ _ h) hv (fun zs z=>⟨fun j ys _ e=>V.notOwn ha e,fun b z'=>.inr ?_⟩) fun s₂ x₂ D₂=>?_)
  ·injection z' with z'
   cases ow with
   | true=>exact ⟨rfl,z'.symm⟩
   | false=>exact nomatch z
  ·have nU:¬ (Z.U C∨(ow=true∧C=a)):=fun u=>u.elim (V.notU hC) fun u=>hne u.2.symm
   have hn₂:s₂.heap.Ns C m:=hnC.at' fun o e=>x₂.off C o ⟨.inl hNC,nU⟩ e
   refine ⟨m,hn₂,fun h' hs=>?_⟩
   obtain ⟨D₃,x₃⟩:=D₂.drop (tk:=s₂.toks) hNC hn₂ (fun b=>b.2 (.inl rfl)) nU (V.notL hC).1 (V.notL hC).2 (set_noD (by intro ks xs; cases ow <;> exact nofun) fun _ _ _ e=>V.notOwn hC e) hs
   exact q .next _ _ _ ⟨(x₁.toK.on x₂ (fun b o k e=>⟨k.1,fun u=>u.elim k.2 fun z=>none_at (z.2▸ha) ⟨o,e⟩⟩) x₁.size).on x₃ (fun b o k e=>⟨k.1,fun z=>none_at (z▸hC) ⟨o,e⟩⟩) (Nat.le_trans x₁.size x₂.size),fun b u=>Or.imp id (fun (z:ow=true∧b=a)=>z.2▸⟨hN,ha⟩) u,
    fun b k=>Or.elim k (fun k=>.inl k.1) fun (z:b=C)=>.inr (.inr (z▸⟨hNC,hC⟩)),fun b o k e=>.inl ⟨k,fun z=>z.elim (fun z=>none_at (z▸hC) ⟨o,e⟩) fun z=>none_at (z.2▸ha) ⟨o,e⟩⟩,fun b u=>D₃.live b (.inl u)⟩ ⟨rfl,_,⟨⟨⟨D₃,V.P,V.EO,V.nm⟩,V.al⟩,V.to⟩⟩⟩
end
end Mine
end
section
open PySem PySem.W PyProof.Rows
namespace Mine
structure I2 (op:Operator) where
 f:PV→PV→Option PV
 ok:∀ {Z:Fr} {s:Shared} {p q r:PV} {v w:Value},Bs Z s→Z.Rep s.heap p v→Z.Rep s.heap q w→f p q=some r→Gets Z s r (inplaceOp op v w)
noncomputable def I2.sc {op:Operator} {α β:Type} (A:Sc α) (B:Sc β) (c:α→β→Bool) (g:α→β→PV)
  (k:∀ (Z:Fr) (s:Shared) (a:α) (b:β) (t u:Tok),Bs Z s→c a b=true→Gets Z s (g a b) (inplaceOp op (A.ve a t) (B.ve b u))):I2 op :=
 ⟨fun p q=>(A.d p).bind fun a=>(B.d q).bind fun b=>bif c a b then some (g a b) else none,
 fun {Z s p q r v w} V rp rq e=>onOpt e fun a ea e=>onOpt e fun b eb e=>onIf (M:=fun r=>Gets Z s r (inplaceOp op v w)) e fun hc=>(A.rd rp ea).elim fun t e1=>(B.rd rq eb).elim fun u e2=>e1▸e2▸k Z s a b t u V hc⟩
noncomputable def iaddI:I2 .Add:=.sc scI scI tt (fun a b=>.int (a+b)) fun Z s a b t u V _ Q E h=>PySem.P.iadd_int (V.int h)
noncomputable def isubI:I2 .Sub:=.sc scI scI tt (fun a b=>.int (a - b)) fun Z s a b t u V _ Q E h=>PySem.P.isub_int (V.int h)
section
variable {sc:SC} {Z:Fr} {σ σ':List Slot} {ws ws':Nat→Option Value} {s s' s₁:Shared} {o:Out} {Q:Flow→Shared→Prop} {E:Value→Shared→Prop} {i:Nat} {xs ys:List PV} {a:Addr} {vs us:List Value} {n k tk:Nat} {h':Heap}
noncomputable def SS.aug {op:Operator} (b:I2 op) (t:Tg) (v:SE sc) (pos:Pos) (h:t.ok sc=true) (hv:isVar sc t.i t.x=true):SS sc:=⟨.AugAssign t.e op v.e pos,fun Φ σ=>(slotV σ t.i).bind fun a=>(v.ev Φ σ).bind fun q=>(b.f a q).map fun r=>.next (σ.set t.i (.val r)),
 fun {Z σ ws s o} V e Q E q=>onBind e fun a e0 e=>onBind e fun c e1 e=>onMap e fun r e2 e3=>by
  subst e3
  obtain ⟨w,h1,h2⟩:=V.ok t.i _ (slotV_is e0)
  exact wpAny_AugAssign_Name (ldn V.toEv hv h1 (v.go V.toEv e1 fun w' s₁ x₁ V₁ r₁=>(b.ok V₁.toBs (Fr.Rep.stp h2 V.sub x₁) r₁ e2) _ _ fun w'' s₂ x₂ r₂=>storeV (V₁.step x₂).toDy V.EO h (V.to _ _ h) r₂ fun ws' s₃ x₃ D₃=>goesOn V ((x₁.trans x₂).toK.trans x₃) D₃ q))⟩
theorem turnEnd (V:Ex Z sc σ ws s) (V₁:Ev Z sc σ ws s₁) (x:Stp Z.X Z.K s s₁) (O:OwnAt Z ws s₁ i xs a vs n) (hx:slotO σ i=some xs) (hs:Heap.SameBut a s₁.heap h') (ha':h'.get? a=some (lstO us k)) (hr:Z.RepL s₁.heap ys us)
  (h:∀ f s' B U,Grown Z s s' B U→Ends (Z.bu B U) sc (.next (σ.set i (.own (.l ys)))) f s'→Q f s'):Q .next { s₁ with heap:=h',toks:=tk }:=by
 obtain ⟨q1,q2⟩:=own_turn (tk:=tk) V₁.toDy O (slotO_is hx) hs ha' hr
 exact goesOn V (x.trans q1) q2 h
noncomputable def SS.app (i:Nat) (x:Str) (p ap pos pos':Pos) (v:SE sc) (hm:isVar sc i x=true) (hl:(ap.endLine==pos.line)=true):SS sc:=⟨.Expr (.Call (.Attribute (.Name x p) "append" ap) (exprs [v]) [] pos) pos',fun Φ σ=>(slotO σ i).bind fun xs=>(v.ev Φ σ).bind fun r=>bif fits xs.length then some (.next (σ.set i (.own (.l (xs++[r]))))) else none,
 fun {Z σ ws s o} V e Q E q=>onBind e fun xs e0 e=>onBind e fun r e1 e=>by
  cases hz:fits xs.length with
  | false=>rw [hz] at e; exact no e
  | true =>
   rw [hz] at e
   obtain rfl:=Option.some.inj e
   rw [exec_Expr Z.env _ pos' (by unfold interactive; rw [V.EO.kind]; rfl) (by rfl)]
   refine wpAny_bind (wpAny_standAt (wpAny_bind (wpAny_Call_method_lateS rfl (few_args (as:=[v]) rfl) hl ?_)))
   refine V.own e0 fun a vs n O=>ldv V.toEv hm O.hh ⟨"list","list.append",F.plainAttrs_list,F.slot_list_append,F.type_list_append,⟨_,O.ha,rfl⟩,fun b q=>by cases q; exact ⟨_,O.ha,rfl⟩,?_⟩
   refine Calls.callWith_builtin (no_stars [v]) (args_call (evL_ok (ps:=[r]) V.toEv (by unfold evL; rw [e1]; rfl) fun vs' s₁ x₁ V₁ rl=>?_))
   obtain ⟨w,_,rfl,rw,rfl⟩:=rl
   have O₁:=O.step V.toBs x₁
   exact app_list O₁.ha (by rw [O₁.hr.len]; exact fits_le hz) fun h' n' e1 e2=>wpAny_dropValue (turnEnd V V₁ x₁.toK O₁ e0 e2 e1 (RepL.append (RepL.cons rw RepL.nil) O₁.hr) q)⟩
noncomputable def SS.rev (i:Nat) (x:Str) (p ap pos pos':Pos) (hm:isVar sc i x=true) (hl:(ap.endLine==pos.line)=true):SS sc:=⟨.Expr (.Call (.Attribute (.Name x p) "reverse" ap) [] [] pos) pos',fun Φ σ=>(slotO σ i).bind fun xs=>bif fits xs.length then some (.next (σ.set i (.own (.l xs.reverse)))) else none,
 fun {Z σ ws s o} V e Q E q=>onBind e fun xs e0 e=>by
  cases hz:fits xs.length with
  | false=>rw [hz] at e; exact no e
  | true =>
   rw [hz] at e
   obtain rfl:=Option.some.inj e
   rw [exec_Expr Z.env _ pos' (by unfold interactive; rw [V.EO.kind]; rfl) (by rfl)]
   refine wpAny_bind (wpAny_standAt (wpAny_bind (wpAny_Call_method_lateS rfl rfl hl ?_)))
   refine V.own e0 fun a vs n O=>ldv V.toEv hm O.hh ⟨"list","list.reverse",F.plainAttrs_list,F.slot_list_reverse,F.type_list_reverse,⟨_,O.ha,rfl⟩,fun b q=>by cases q; exact ⟨_,O.ha,rfl⟩,?_⟩
   refine Calls.callWith_builtin rfl ?_
   unfold evalArgs
   refine wpAny_pure ?_
   exact rev_list O.ha (by rw [O.hr.len]; exact fits_le hz) fun h' n' e1 e2=>wpAny_dropValue (turnEnd V V.toEv .refl O e0 e2 e1 (Mine.RepL.rev O.hr) q)⟩
noncomputable def okIx (n:Nat) (j:Int):Option Nat:=bif Int.natAbs j==j.toNat&&(Nat.blt j.toNat n&&sm j) then some j.toNat else none
theorem okIx_is {n m:Nat} {j:Int} (e:okIx n j=some m):0≤j∧j < 2 ^ 63∧j < n∧j.toNat=m:=by
 unfold okIx at e
 cases h:Int.natAbs j==j.toNat&&(Nat.blt j.toNat n&&sm j) with
 | false=>rw [h] at e; exact no e
 | true =>
  rw [h] at e
  have h1:=eq_of_beq (both h).1
  have h2:=Nat.blt_eq.mp (both (both h).2).1
  have h3:=sm_lt (both (both h).2).2
  have:=Option.some.inj e
  omega
noncomputable def SS.setItem (i:Nat) (x:Str) (p p':Pos) (ix v:SE sc) (pos:Pos) (hm:isVar sc i x=true) (hs:∀ env,swapsWith v.e (some (.Subscript (.Name x p) ix.e p')) pos.line env=pure false):SS sc:=⟨.Assign [.Subscript (.Name x p) ix.e p'] v.e pos,
 fun Φ σ=>(slotO σ i).bind fun xs=>(v.ev Φ σ).bind fun r=>(ix.ev Φ σ).bind fun j=>j.int?.bind fun j=>(okIx xs.length j).map fun m=>.next (σ.set i (.own (.l (xs.set m r)))),
 fun {Z σ ws s o} V e Q E q=>onBind e fun xs e0 e=>onBind e fun r e1 e=>onBind e fun j e2 e=>onBind e fun j' e3 e=>onMap e fun m e4 e5=>by
  subst e5
  obtain ⟨h0,hk0,hk,rfl⟩:=okIx_is e4
  refine wpAny_Assign_Subscript (v.go V.toEv e1 fun w s₁ x₁ V₁ r₁=>?_) (hs _)
  refine (V.step x₁).own e0 fun a vs n O=>ldv V₁ hm O.hh (ix.go V₁ e2 fun iv s₂ x₂ V₂ r₂=>?_)
  obtain ⟨t,rfl⟩:=scI.rd r₂ e3
  have O₂:=O.step V₁.toBs x₂
  exact set_list O₂.ha h0 hk0 (by rw [O₂.hr.len]; exact hk) fun h' n' e1 e2=>turnEnd V V₂ (x₁.trans x₂).toK O₂ e0 e2 e1 (Mine.RepL.set (r₁.stp V₁.sub x₂) _ O₂.hr) q⟩
noncomputable def SS.augItem {op:Operator} (b:I2 op) (i:Nat) (x:Str) (p p':Pos) (ix v:SE sc) (pos:Pos) (hm:isVar sc i x=true) (hix:∀ ov iv new,augStore ix.e ov iv new=(do holding [new,ov,iv] (PySem.setItem ov iv new); release [new,ov,iv] []; pure .next)):SS sc:=⟨.AugAssign (.Subscript (.Name x p) ix.e p') op v.e pos,
 fun Φ σ=>(slotO σ i).bind fun xs=>(ix.ev Φ σ).bind fun j=>j.int?.bind fun j=>(okIx xs.length j).bind fun m=>(xs[m]?).bind fun a=>(v.ev Φ σ).bind fun q=>(b.f a q).map fun r=>.next (σ.set i (.own (.l (xs.set m r)))),
 fun {Z σ ws s o} V e Q E q=>onBind e fun xs e0 e=>onBind e fun j e1 e=>onBind e fun j' e2 e=>onBind e fun m e3 e=>onBind e fun a e4 e=>onBind e fun c e5 e=>onMap e fun r e6 e7=>by
  subst e7
  obtain ⟨h0,hk0,hk,rfl⟩:=okIx_is e3
  refine V.own e0 fun l vs n O=>wpAny_AugAssign_SubscriptAny (ldv V.toEv hm O.hh ?_) hix
  refine ix.go V.toEv e1 fun iv s₁ x₁ V₁ r₁=>?_
  obtain ⟨t,rfl⟩:=scI.rd r₁ e2
  have O₁:=O.step V.toBs x₁
  obtain ⟨w,hw1,hw2⟩:=Mine.RepL.get O₁.hr e4
  refine wpAny_getItem_list (lst_is O₁.ha) h0 hk0 (x:=w) (by rw [List.getElem?_toArray]; exact hw1) ?_
  refine v.go V₁ e5 fun w' s₂ x₂ V₂ r₂=>(b.ok V₂.toBs (Fr.Rep.stp hw2 V.sub x₂) r₂ e6) _ _ fun w'' s₃ x₃ r₃=>?_
  have O₃:=O₁.step V₁.toBs (x₂.trans x₃)
  exact set_list O₃.ha h0 hk0 (by rw [O₃.hr.len]; exact hk) fun h' n' e1 e2=>turnEnd V (V₂.step x₃) (x₁.trans (x₂.trans x₃)).toK O₃ e0 e2 e1 (Mine.RepL.set r₃ _ O₃.hr) q⟩
end
end Mine
end
section
open PySem PySem.W PyProof.Rows
namespace Mine
noncomputable def loopGo (bind:PV→List Slot→Option (List Slot)) (f:List Slot→Option Out) (xs:List PV):List Slot→Option Out :=
 List.rec (motive:=fun _=>List Slot→Option Out) (fun σ=>some (.next σ)) (fun x _ r σ=>(bind x σ).bind fun σ₁=>(f σ₁).bind fun o=>Out.casesOn (motive:=fun _=>Option Out) o r (fun σ'=>some (.next σ')) fun p=>some (.ret p)) xs
theorem loopGo_cons {bind:PV→List Slot→Option (List Slot)} {f:List Slot→Option Out} {x:PV} {xs:List PV} {σ:List Slot} {o:Out} (e:loopGo bind f (x::xs) σ=some o):∃ σ₁ o₁,bind x σ=some σ₁∧f σ₁=some o₁∧Out.casesOn (motive:=fun _=>Option Out) o₁ (loopGo bind f xs) (fun σ'=>some (.next σ')) (fun p=>some (.ret p))=some o :=
 onBind e fun σ₁ e1 e=>onBind e fun o₁ e2 e=>⟨σ₁,o₁,e1,e2,e⟩
structure LI (Z:Fr) (sc:SC) (s s₁:Shared) (S:(Addr→Prop)→Nat→Shared→Prop) (i:Nat) (σ:List Slot) (B U W:Addr→Prop) (ws:Nat→Option Value) (s':Shared):Prop where
 st:S W i s'
 hM:∀ a,W a→∃ o,s'.heap.get? a=some o
 hW:∀ a,W a→(s.heap.get? a=none∧Z.X.N≤a)∧(¬ U a∧¬ B a)
 g:Grown Z s s' B U
 V:Ey (Z.bu B U) sc σ ws s'
 hU:∀ a,U a→Z.U a∨s₁.heap.get? a=none
 hN:∀ a,Z.X.N≤a→s'.heap.get? a=none→s₁.heap.get? a=none
 hB:∀ a o,Z.B a→s₁.heap.get? a=some o→(B a∧s'.heap.get? a=some o)∨W a
section
variable {sc:SC} {Z:Fr} {σ σ' σ₀:List Slot} {ws ws' ws₀:Nat→Option Value} {s s₁ s' s'':Shared} {S:(Addr→Prop)→Nat→Shared→Prop} {i j:Nat} {B U B' U' W W':Addr→Prop} {tp:Bool} {it:Value} {xs:List PV}
theorem LI.apart (L:LI Z sc s s₁ S i σ B U W ws s') (V:Ey Z sc σ' ws' s):Apart (Z.bu B U) σ ws W :=
 ⟨fun l m y=>(V.notL (L.hW _ y).1.1).1 l m rfl,fun y=>(V.notL (L.hW _ y).1.1).2 rfl,fun i xs a e q y=>(L.hW a y).2.1 (L.V.ownU i xs a (Nat.lt_of_lt_of_le (by rw [L.V.len]; exact (List.getElem?_eq_some_iff.mp e).1) L.V.al) e q)⟩
theorem LI.grown (L:LI Z sc s s₁ S i σ B U W ws s') (V:Ey Z sc σ' ws' s) (y:St Z.X (Z.X.VW W) s.gens.size s' s'') (hB:∀ a,B' a→Z.B a∨(Z.U a∨New Z s a)) (kB:∀ a o,s.heap.get? a=some o→B a→B' a):Grown Z s s'' B' U :=
 ⟨L.g.x.on y (fun a o k e=>⟨k.1,fun w=>none_at (L.hW a w).1.1 ⟨o,e⟩⟩) (Nat.le_refl _),L.g.hU,hB,fun a o b e=>kB a o e (L.g.kB a o b e),fun a u=>(L.g.al a u).imp fun o e=>y.off a o ⟨.inl (V.turn a u).1,fun w=>none_at (L.hW a w).1.1 (V.live a u)⟩ e⟩
theorem LI.item (L:LI Z sc s s₁ S i σ B U W ws s') (V:Ey Z sc σ' ws' s) (y:St Z.X (Z.X.VW W) s.gens.size s' s'') (h0:∀ a,W a→W' a) (h1:∀ a,W' a→W a∨s'.heap.get? a=none) (hm:∀ a,W' a→Mut Z.X.N s''.heap a) (st:S W' j s'') :
  LI Z sc s s₁ S j σ (fun a=>B a∧¬ W' a) U W' ws s'':=by
 have hU':∀ a,W' a→¬ U a:=fun a w u=>(h1 a w).elim (fun w=>(L.hW a w).2.1 u) fun e=>none_at e (L.V.live a u)
 have ex:∀ a,W' a→∃ o,s''.heap.get? a=some o:=fun a w=>(hm a w).2.imp fun _ q=>q.1
 have new:∀ a,W' a→s.heap.get? a=none:=fun a w=>(h1 a w).elim (fun w=>(L.hW a w).1.1) fun e=>by
  by_cases u:Z.U a
  ·exact none_at e (L.g.al a u)
  ·exact L.g.x.live ⟨.inl (hm a w).1,u⟩ e
 have back:∀ a,Z.X.N≤a→s''.heap.get? a=none→s'.heap.get? a=none:=fun a n e=>y.live ⟨.inl n,fun w=>none_at e (ex a (h0 a w))⟩ e
 have nW:∀ a o,B a→s'.heap.get? a=some o→¬ W' a:=fun a o b e w=>(h1 a w).elim (fun w=>(L.hW a w).2.2 b) fun q=>none_at q ⟨o,e⟩
 have kp:∀ a o,B a→s'.heap.get? a=some o→s''.heap.get? a=some o:=fun a o b e=>y.off a o ⟨L.V.sub a b,fun w=>(L.hW a w).2.2 b⟩ e
 refine { st:=st,hM:=ex,hW:=fun a w=>⟨⟨new a w,(hm a w).1⟩,hU' a w,fun b=>b.2 w⟩,g:=L.grown V y (fun a b=>L.g.hB a b.1) fun a o e b=>⟨b,fun w=>none_at (new a w) ⟨o,e⟩⟩,V:=⟨⟨?_,V.P,V.EO,V.nm⟩,V.al⟩,hU:=L.hU,hN:=fun a n e=>L.hN a n (back a n e),hB:=fun a o b e=>(L.hB a o b e).elim (fun q=>.inl ⟨⟨q.1,nW a o q.1 q.2⟩,kp a o q.1 q.2⟩) fun w=>.inr (h0 a w) }
 exact L.V.toDy.to (L.apart V) (y.G L.V.g) (fun a n e=>⟨L.V.fresh a n (back a n e),fun w=>none_at e (ex a w)⟩) (fun a b=>L.V.sub a b.1) (fun a u b=>L.V.dis a u b.1) (fun a u=>⟨(L.V.turn a u).1,(L.V.turn a u).2.imp fun o q=>⟨y.off a o ⟨.inl (L.V.turn a u).1,fun w=>(L.hW a w).2.1 u⟩ q.1,q.2⟩⟩)
  (fun a o b e=>⟨⟨b,nW a o b e⟩,kp a o b e⟩) (fun a o n w e=>y.off a o ⟨.inl n,w⟩ e) fun a u=>u
theorem LI.step (L:LI Z sc s s₁ S i σ B U W ws s') (V:Ey Z sc σ₀ ws₀ s) (g:Grown (Z.bu B U) s' s'' B' U') (V':Ey (Z.bu B' U') sc σ' ws' s'') (st:S W i s''):LI Z sc s s₁ S i σ' B' U' W ws' s'' :=
 have kp:∀ a o,Z.X.V a→¬ U a→s'.heap.get? a=some o→s''.heap.get? a=some o:=fun a o v u e=>g.x.off a o ⟨v,u⟩ e
 {st:=st
  hM:=fun a w=>(L.hM a w).imp fun o e=>kp a o (.inl (L.hW a w).1.2) (L.hW a w).2.1 e
  hW:=fun a w=>⟨(L.hW a w).1,fun u=>(g.hU a u).elim (L.hW a w).2.1 fun n=>none_at n.2 (L.hM a w),fun b=>(g.hB a b).elim (L.hW a w).2.2 fun q=>q.elim (L.hW a w).2.1 fun n=>none_at n.2 (L.hM a w)⟩
  g:=L.g.trans V.toDy g
  V:=V'
  hU:=fun a u=>(g.hU a u).elim (L.hU a) fun n=>.inr (L.hN a n.1 n.2)
  hN:=fun a n e=>L.hN a n (by
   by_cases u:U a
   ·exact none_at e (g.al a u)
   ·exact g.x.live ⟨.inl n,u⟩ e)
  hB:=fun a o b e=>(L.hB a o b e).imp (fun q=>⟨g.kB a o q.1 q.2,kp a o (L.V.sub a q.1) (fun u=>L.V.dis a u q.1) q.2⟩) id }
theorem LI.done (L:LI Z sc s s₁ S i σ B U W ws s') (V:Ey Z sc σ' ws' s) (y:St Z.X (Z.X.VW W) s.gens.size s' s''):Grown Z s s'' (fun a=>B a∨W a) U∧Ey (Z.bu (fun a=>B a∨W a) U) sc σ ws s'' :=
 ⟨L.grown V y (fun a b=>b.elim (L.g.hB a) fun w=>.inr (.inr ⟨(L.hW a w).1.2,(L.hW a w).1.1⟩)) fun a o e b=>.inl b,
  ⟨⟨L.V.toDy.to (L.apart V) (y.G L.V.g) (fun a n e=>by
   by_cases w:W a
   ·exact .inr w
   ·exact .inl (L.V.fresh a n (y.live ⟨.inl n,w⟩ e))) (fun a b=>b.elim (L.V.sub a) fun w=>.inl (L.hW a w).1.2) (fun a u b=>b.elim (L.V.dis a u) fun w=>(L.hW a w).2.1 u) (fun a u=>⟨(L.V.turn a u).1,(L.V.turn a u).2.imp fun o q=>⟨y.off a o ⟨.inl (L.V.turn a u).1,fun w=>(L.hW a w).2.1 u⟩ q.1,q.2⟩⟩)
  (fun a o b e=>⟨.inl b,y.off a o ⟨L.V.sub a b,fun w=>(L.hW a w).2.2 b⟩ e⟩) (fun a o n w e=>y.off a o ⟨.inl n,w⟩ e) fun a u=>u,V.P,V.EO,V.nm⟩,V.al⟩⟩
theorem LI.start (V:Ey Z sc σ ws s) (x:Stp Z.X Z.X.V s s₁) (I:Iter Z Z.K tp it xs W S s s₁):LI Z sc s s₁ S 0 σ (fun a=>Z.B a∧¬ W a) Z.U W ws s₁ :=
 have ex:∀ a,W a→∃ o,s₁.heap.get? a=some o:=fun a w=>(I.mutd _ _ _ I.start a w).2.imp fun _ q=>q.1
 have V₁:=V.toDy.step x
 {st:=I.start
  hM:=ex
  hW:=fun a w=>⟨⟨I.new a w,(I.mutd _ _ _ I.start a w).1⟩,fun u=>none_at (I.new a w) (V.live a u),fun b=>b.2 w⟩
  g:=⟨x.toK,fun a u=>.inl u,fun a b=>.inl b.1,fun a o b e=>⟨b,fun w=>none_at (I.new a w) ⟨o,e⟩⟩,V₁.live⟩
  V:=⟨⟨V.toDy.to .none (x.G V.g) (fun a n e=>⟨V.fresh a n (x.live (.inl n) e),fun w=>none_at e (ex a w)⟩) (fun a b=>V.sub a b.1) (fun a u b=>V.dis a u b.1) V₁.turn (fun a o b e=>⟨⟨b,fun w=>none_at (I.new a w) ⟨o,e⟩⟩,x.off a o (V.sub a b) e⟩) (fun a o n _ e=>x.off a o (.inl n) e) fun a u=>u,V.P,V.EO,V.nm⟩,V.al⟩
  hU:=fun a u=>.inl u
  hN:=fun a _ e=>e
  hB:=fun a o b e=>by
   by_cases w:W a
   ·exact .inr w
   ·exact .inl ⟨⟨b,w⟩,e⟩ }
end
end Mine
end
section
open PySem PySem.W PyProof.Rows
namespace Mine
section
variable {sc:SC}
theorem for_go {tg:SP sc} {ie:Expr} {body:SL sc} {pos:Pos} {xs:List PV} {Z:Fr} {σ:List Slot} {ws:Nat→Option Value} {s:Shared} {o:Out} (V:Ex Z sc σ ws s) (ht:tg.ts.all (Tg.ok sc)=true) (hfd:∀ x,foldedSetIterable ie Z.env x=pure x) (hit:GetsIt Z Z.K s tg.tp xs (eval ie Z.env))
  (e2:loopGo tg.bind (body.ex Z.Φ) xs σ=some o):Does Z sc s o (exec (.For tg.e ie body.sts [] pos) Z.env):=by
  intro Q E q
  refine wpAny_For (hit _ _ fun it' W₀ S s₁ x₁ I=>?_) hfd
  refine codeAny_forLoop_any (fun n s'=>∃ i σi B U W ws,(n=xs.length - i∧i≤xs.length)∧LI Z sc s s₁ S i σi B U W ws s'∧loopGo tg.bind (body.ex Z.Φ) (xs.drop i) σi=some o) ?_ xs.length ⟨0,σ,_,Z.U,W₀,ws,⟨rfl,Nat.zero_le _⟩,LI.start V.toEy x₁ I,e2⟩
  rintro n s' ⟨i,σi,B,U,W,ws',⟨hn,hi⟩,L,hm⟩
  cases hxi:xs[i]? with
  | none =>
   obtain rfl:i=xs.length:=Nat.le_antisymm hi (List.getElem?_eq_none_iff.mp hxi)
   rw [List.drop_length] at hm
   obtain rfl:=Option.some.inj (show some (Out.next σi)=some o from hm)
   refine I.done W s' _ _ L.st L.V.g fun s'' y=>wpAny_execs_nil ?_
   obtain ⟨g,V'⟩:=L.done V.toEy y
   exact q .next s'' _ _ g ⟨rfl,_,V',V.to⟩
  | some x =>
   have hlt:i < xs.length:=(List.getElem?_eq_some_iff.mp hxi).1
   have less:xs.length - (i+1) < n:=hn▸Nat.sub_lt_sub_left hlt (Nat.lt_succ_self i)
   rw [items_left hxi] at hm
   obtain ⟨σ₁,o₁,e3,e4,e5⟩:=loopGo_cons hm
   refine I.item W i x tg.e hxi tg.ht (fun a=>B a∨W a) s' _ _ (fun a o b e=>(L.hB a o b e).imp (fun q=>q.1) id) (fun a n e=>.inl (L.V.fresh a n e)) L.st L.V.g fun W' v sa h1 h2 h3 ya rv go=>?_
   refine go _ _ fun sb yb stb=>?_
   have y:St Z.X (Z.X.VW W) s.gens.size s' sb:=ya.on yb (fun a o k e=>⟨k.1,fun w=>(h2 a w).elim k.2 fun q=>none_at q ⟨o,e⟩⟩) (Nat.le_refl _)
   have Lb:=L.item V.toEy y h1 h2 (I.mutd W' (i+1) sb stb) stb
   refine tg.ok (Z:=Z.bu (fun a=>B a∧¬ W' a) U) Lb.V.toDy V.EO (V.tos ht) (rv.move fun a o b e=>⟨⟨b.1.elim id fun w=>absurd (h1 a w) b.2,b.2⟩,yb.off a o ⟨b.1.elim (L.V.sub a) fun w=>.inl (L.hW a w).1.2,b.2⟩ e⟩) e3 fun wc sc₁ yc Dc=>?_
   refine body.ok ⟨⟨⟨Dc,V.P,V.EO,V.nm⟩,V.al⟩,V.to⟩ e4 _ _ fun f sd B' U' g en=>?_
   have gg:=(Grown.of yc Dc).trans Lb.V.toDy g
   cases o₁ with
   | next σ₂ =>
    obtain ⟨rfl,wd,Vd⟩:=en
    exact ⟨_,less,i+1,σ₂,B',U',W',wd,⟨rfl,hlt⟩,Lb.step V.toEy gg Vd.toEy (I.keep W' (i+1) sb sd _ stb gg.x (fun a w=>⟨.inl (Lb.hW a w).1.2,(Lb.hW a w).2.1⟩) fun a o k e=>⟨k.1,fun u=>(Lb.hU a u).elim k.2 fun z=>none_at z ⟨o,e⟩⟩),e5⟩
   | brk σ₂ =>
    obtain ⟨rfl,wd,Vd⟩:=en
    obtain rfl:=Option.some.inj (show some (Out.next σ₂)=some o from e5)
    exact q .next sd B' U' (Lb.g.trans V.toDy gg) ⟨rfl,wd,Vd⟩
   | ret p =>
    obtain rfl:=Option.some.inj (show some (Out.ret p)=some o from e5)
    obtain ⟨v,rfl,r⟩:=en
    exact q _ sd B' U' (Lb.g.trans V.toDy gg) ⟨v,rfl,r⟩
noncomputable def SS.for (tg:SP sc) (it:SI sc) (body:SL sc) (pos:Pos) (h:(tg.ts.all (Tg.ok sc)&&(!it.need || tg.tp))=true):SS sc:=⟨.For tg.e it.e body.sts [] pos,fun Φ σ=>(it.ev Φ σ).bind fun xs=>loopGo tg.bind (body.ex Φ) xs σ,
 fun {Z σ ws s o} V e=>onBind e fun xs e1 e2=>for_go V (both h).1 (it.pl.fd _) (it.ok V.toEv e1 Z.K tg.tp (fun a b=>⟨V.sub a b,fun u=>V.dis a u b⟩) fun q=>by have:=(both h).2; rw [q] at this; exact this) e2⟩
end
end Mine
end
section
open PySem PySem.W PyProof.Rows
namespace Mine
section
variable {prog:Program} {w:World} {Ar:Around} {s:Shared} {E:Value→Shared→Prop} {l b:Addr} {vs ws:List Value} {n k:Nat} {h:Heap}
end
section
variable {sc:SC} {Z:Fr} {σ:List Slot} {ws:Nat→Option Value} {s:Shared} {i:Nat} {ys:List PV}
noncomputable def noPos:Pos:=(qz 0 0 0)
noncomputable def scEnv (sc:SC):Env:={ scope:={ kind:=.function,names:=sc.N,isGenerator:=false,isCoroutine:=false },locals:=0,globals:=0,cells:=[],qual:="" }
theorem swaps_same {env:Env} (h1:env.scope.kind=.function) (h2:env.scope.names=sc.N) {ts vs:List Expr} {k k':Nat} {p p':Pos}:swappedStores [.Tuple ts k p] (.Tuple vs k' p') env=swappedStores [.Tuple ts 0 noPos] (.Tuple vs 0 noPos) (scEnv sc):=by
 have bk:(env.blockKind != .function)=((scEnv sc).blockKind != .function):=by
  unfold Env.blockKind; rw [h1]; rfl
 have kn:∀ id,env.kindOf id=(scEnv sc).kindOf id:=fun id=>by
  show env.scope.names.lookup id=sc.N.lookup id
  rw [h2]
 unfold swappedStores
 simp only [bk,kn]
noncomputable def SS.tups (ts:List Tg) (k k':Nat) (pp p':Pos) (as:List (SE sc)) (pos:Pos) (h:ts.all (Tg.ok sc)=true) (hs:swappedStores [.Tuple (ts.map Tg.e) 0 noPos] (.Tuple (exprs as) 0 noPos) (scEnv sc)=pure none):SS sc :=
 SS.many true ts k pp (SE.tup as k' p') pos h fun env h1 h2=>(swaps_same h1 h2).trans hs
end
end Mine
end
section
open PySem PySem.W PyProof.Rows
namespace Mine
section
variable {prog:Program} {w:World} {Ar:Around} {R:Result→Shared→Prop} {s:Shared}
end
end Mine
end
section
open PySem PySem.W PyProof.Rows
namespace Mine
def NoOwn (σ:List Slot):Prop:=∀ (i:Nat) (xs:Cont),σ[i]?≠some (.own xs)
noncomputable def noOwn (σ:List Slot):Bool:=σ.all fun t=>Slot.casesOn (motive:=fun _=>Bool) t true (fun _=>true) (fun _=>false) (fun _=>true) fun _=>true
theorem noOwn_is {σ:List Slot} (h:noOwn σ=true):NoOwn σ:=fun i xs e=>nomatch (List.all_eq_true.mp h _ (List.mem_of_getElem? e):false=true)
section
variable {sc:SC} {Z:Fr} {σ:List Slot} {ws:Nat→Option Value} {s:Shared} {Da:Addr} {xs zs done:List PV} {vs:List Value} {n:Nat}
end
end Mine
end
section
open PySem PySem.W PyProof.Rows
namespace Mine
section
variable {sc:SC} {Z:Fr} {σ:List Slot} {ws:Nat→Option Value} {s s' s'':Shared} {S:(Addr→Prop)→Nat→Shared→Prop} {Da C:Addr} {names:List (Str × NameKind)} {cs:List (Str × Addr)} {vars:List Str} {i:Nat} {done:List PV} {vs:List Value} {W:Addr→Prop}
end
end Mine
end
section
open PySem PySem.W PyProof.Rows
namespace Mine
section
variable {sc:SC}
end
end Mine
end
section
open PySem PySem.W PyProof.Rows
namespace Mine
section
variable {Ar:Around} {E:Value→Shared→Prop} {s s':Shared} {sc:SC} {Z:Fr} {env:Env} {C:Addr} {names:List (Str × NameKind)} {cs:List (Str × Addr)} {vars:List Str}
theorem new_def_env {M:Model} {scope:Scope} {globals:Addr} {cl:List (Str × Addr)} {binds:List (Str × Value)} {qual:Str} {func:Option Addr} {code:Value} {builtins:Addr} {Q:Env→Shared→Prop}
  (h:wpAny M Ar (forIn binds (⟨⟩:PUnit) fun (x:Str × Value) (_:PUnit)=>(match x with | (name,v)=>do storeName (newEnv scope s.heap.objs.size globals (cellsFrom (s.heap.objs.size+1) scope.names cl) qual func code none builtins) name v; pure (ForInStep.yield ⟨⟩):Sem (ForInStep PUnit)))
   (fun _ s'=>Q (newEnv scope s.heap.objs.size globals (cellsFrom (s.heap.objs.size+1) scope.names cl) qual func code none builtins) s') E { s with heap:=pushCells (s.heap.push { cls:=.type "frame",data:=.dict #[] }) scope.names }) :
  wpAny M Ar (newFunctionEnv scope globals cl binds qual func code none builtins) Q E s:=by
 simp only [newFunctionEnv,Option.isSome_none,Bool.false_eq_true,_root_.if_false]
 refine wpAny_bind (wpAny_alloc ?_)
 refine wpAny_bind (wpAny_layCells _ (fun name kind cells=>by cases hkc:kind==NameKind.cell <;> simp [hkc]) _ _ _ _ ?_)
 rw [show ({ s with heap:=s.heap.push { cls:=.type "frame",data:=.dict #[] } }:Shared).heap.objs.size=s.heap.objs.size+1 from Heap.size_push ..]
 exact wpAny_bind (wpAny_mono h (fun _ _ q=>wpAny_pure q) fun _ _ e=>e)
noncomputable abbrev Fr.first (Z:Fr) (Ar:Around) (d:Nat) (env:Env) (names:List (Str × NameKind)) (cs:List (Str × Addr)) (C:Addr) (vars:List Str):Fr :=
 {X:=Z.X,Φ:=Z.Φ,Ar:=Ar,d:=d,env:=env,ls:=vars.map (locOf names cs C),B:=fun a=>Z.B a∧¬ OfFrame C cs a,U:=OfFrame C cs,wr:=vars.length,ow:=vars.length,fx:=Z.fx }
theorem frame_first {d:Nat} (V:Bs Z s) (R:Room Ar d) (x:Stp Z.X Z.X.V s s') (N:FrameNew C names cs) (hi:∀ a,OfFrame C cs a→s.heap.get? a=none∧Z.X.N≤a) (F:FrameAt s'.heap C names cs vars) (hC:env.locals=C) (hv:vars.Nodup) :
  ∃ ws,Dy (Z.first Ar d env names cs C vars) (List.replicate vars.length .unset) ws s':=by
 have V₁:=V.step x
 have loc:∀ (i:Nat) (l:Loc),(vars.map (locOf names cs C))[i]?=some l→∃ y,vars[i]?=some y∧locOf names cs C y=l:=fun i l e=>by
  rw [List.getElem?_map] at e
  exact onMap e fun y e q=>⟨y,e,q⟩
 have un:∀ {i:Nat} {t:Slot},(List.replicate vars.length Slot.unset)[i]?=some t→t=.unset:=fun e=>by
  obtain ⟨_,e⟩:=List.getElem?_eq_some_iff.mp e
  rw [← e,List.getElem_replicate]
 obtain ⟨g,hg⟩:=Classical.axiomOfChoice F.pl
 refine ⟨fun i=>vars[i]?.bind g,{ K:=V.K,R:=R,g:=V₁.g,fresh:=fun a n e=>⟨V₁.fresh a n e,fun q=>none_at e ((F.mu a q).imp fun _ q=>q.1)⟩,sub:=fun a b=>V.sub a b.1,dis:=fun a u b=>b.2 u,turn:=fun a u=>⟨(hi a u).2,F.mu a u⟩,len:=?_,pl:=fun i l e=>?_,hi:=fun l m=>?_,ok:=fun i t e=>?_,mine:=fun i l _ e=>?_,ownU:=fun i xs a _ e _=>(nomatch un e),apart:=N.nodup hv,nsl:=⟨hC▸(hi C (.inl rfl)).2,hC▸F.ns⟩,once:=fun i j xs ys e1 e2 e3=>(nomatch un e1) }⟩
 ·show (vars.map (locOf names cs C)).length=_
  rw [List.length_map,List.length_replicate]
 ·obtain ⟨y,ey,rfl⟩:=loc i l e
  show At _ (vars[i]?.bind g) _
  rw [ey]; exact hg y (List.mem_of_getElem? ey)
 ·rw [un e]; trivial
 ·obtain ⟨y,_,rfl⟩:=List.mem_map.mp m
  exact (hi _ (N.of y)).2
 ·obtain ⟨y,_,rfl⟩:=loc i l e
  exact N.of y
noncomputable def setFrom (k:Nat):List PV→List Slot→List Slot
 | [],σ=>σ
 | p::ps,σ=>setFrom (k+1) ps (σ.set k (.val p))
theorem setFrom_is:∀ (ps:List PV) (pre:List Slot) (n:Nat),setFrom pre.length ps (pre++List.replicate (ps.length+n) Slot.unset)=pre++ps.map Slot.val++List.replicate n Slot.unset
 | [],pre,n=>by rw [List.length_nil,Nat.zero_add,List.map_nil,List.append_nil]; rfl
 | p::ps,pre,n=>by
  unfold setFrom
  have e:(pre++List.replicate ((p::ps).length+n) Slot.unset).set pre.length (.val p)=(pre++[.val p])++List.replicate (ps.length+n) Slot.unset:=by
   rw [List.set_append_right _ _ (Nat.le_refl _),Nat.sub_self,List.length_cons,Nat.add_right_comm,List.replicate_succ,List.set_cons_zero,List.append_assoc]; rfl
  have h:=setFrom_is ps (pre++[.val p]) n
  rw [List.length_append] at h
  rw [e]
  exact h.trans (by rw [List.append_assoc pre]; rfl)
theorem bind_params (EO:EnvOk Z.env sc Z.ls):∀ (xs:List Str) (vs:List Value) (ps:List PV) (k:Nat) (σ:List Slot) (ws:Nat→Option Value) (s:Shared) (Q:PUnit→Shared→Prop),Dy Z σ ws s→xs.length=ps.length→Z.RepL s.heap ps vs →
  (∀ (j:Nat) (x:Str),xs[j]?=some x→isTo sc (k+j) x=true∧k+j < Z.wr) →
  (∀ ws' s',Stp Z.X Z.K s s'→Dy Z (setFrom k ps σ) ws' s'→Q ⟨⟩ s') →
  wpAny Z.X.M Z.Ar (forIn (xs.zip vs) (⟨⟩:PUnit) fun (x:Str × Value) (_:PUnit)=>(match x with | (name,v)=>do storeName Z.env name v; pure (ForInStep.yield ⟨⟩):Sem (ForInStep PUnit))) Q E s
 | [],vs,[],k,σ,ws,s,Q,D,_,r,_,h=>by
  rw [List.zip_nil_left,List.forIn_nil]
  exact wpAny_pure (h ws s .refl D)
 | x::xs,vs,p::ps,k,σ,ws,s,Q,D,hl,r,hm,h=>by
  obtain ⟨v,vs,rfl,r1,r2⟩:=r
  rw [List.zip_cons_cons,List.forIn_cons]
  exact wpAny_bind (wpAny_bind (storeV D EO (hm 0 x rfl).1 (hm 0 x rfl).2 r1 fun ws₁ s₁ x₁ D₁=>wpAny_pure (bind_params EO xs vs ps (k+1) _ ws₁ s₁ Q D₁ (Nat.succ.inj hl) (Fr.RepL.stpK r2 D x₁) (fun j x' e=>(Nat.add_right_comm k j 1)▸hm (j+1) x' e) fun ws₂ s₂ x₂ D₂=>h ws₂ s₂ (x₁.trans x₂) D₂)))
 | [],_,_::_,_,_,_,_,_,_,hl,_,_,_=>nomatch hl
 | _::_,_,[],_,_,_,_,_,_,hl,_,_,_=>nomatch hl
end
end Mine
end
section
open PySem PySem.W PyProof.Rows
namespace Mine
structure Sig where
 names:List (Str × NameKind)
 params:List Str
 locals:List Str
 own:Option (Addr × Str)
noncomputable abbrev Sig.sc (D:Sig) (nm:Nms):SC:=⟨D.names,D.params++D.locals,nm,D.own⟩
structure DefOk (fd:FuncData) (D:Sig) (stmts:List Stmt):Prop where
 names:fd.scope.names=D.names
 kind:fd.scope.kind=.function
 co:fd.scope.isCoroutine=false
 gen:fd.scope.isGenerator=false
 body:fd.body=.stmts stmts
 clo:fd.closure=[]
 glob:fd.globals=mainGlobals
 blt:fd.builtins=builtinsNs
 nodup:(D.params++D.locals).Nodup
 nofree:∀ x,D.names.lookup x≠some .free
 store:∀ x∈D.params++D.locals,(D.names.lookup x==some .local || D.names.lookup x==some .cell)=true
 bind:∀ vs:List Value,vs.length=D.params.length→bindArgs fd ⟨vs,[]⟩=pure (D.params.zip vs)
 own:∀ c q,D.own=some (c,q)→fd.code=.ref c∧fd.qualname++".<locals>."=q
structure FnAt (X:Cx) (a:Addr) (fd:FuncData):Prop where
 obj:∀ h,X.G h→∃ o,h.get? a=some o∧o.data=.func fd
 code:∀ h,X.G h→h.CodeRec fd.code fd.qualname
section
variable {nm:Nms} {Z:Fr} {s:Shared} {ps:List PV} {vs:List Value} {r:PV} {a:Addr} {fd:FuncData} {D:Sig} {stmts:List Stmt} {d:Nat}
noncomputable def Sig.slots (D:Sig) (ps:List PV):List Slot:=ps.map Slot.val++List.replicate D.locals.length .unset
def Done (Z:Fr) (f:Flow) (r:PV) (s:Shared):Prop:=(f=.next∧r=.none)∨∃ v,f=.ret v∧Z.Rep s.heap r v
theorem room_in1 {u d:Nat} (h:u+8 * (d+1)+200≤9900):u+1+8 * d+200≤9900:=by omega
theorem Room.in1 {Ar:Around} {d:Nat} (R:Room Ar (d+1)):Room Ar.in1 d:=⟨R.hh,Nat.le_of_succ_le R.hd,room_in1 R.hu⟩
theorem def_frame {Rr:Result→Shared→Prop} {σ₂:List Slot} (V:Bs Z s) (A:FnAt Z.X a fd) (DO:DefOk fd D stmts) (hd:Z.d=d+1) (hlen:vs.length=D.params.length)
  (bind:∀ env cs C ws H,EnvOk env (D.sc nm) ((D.params++D.locals).map (locOf D.names cs C))→(∀ a,OfFrame C cs a→s.heap.get? a=none∧Z.X.N≤a)→Ext s.heap H→Dy (Z.first Z.Ar.in1 d env D.names cs C (D.params++D.locals)) (List.replicate (D.params++D.locals).length .unset) ws { s with heap:=H } →
   ∀ (Q:PUnit→Shared→Prop) E,(∀ ws₂ s₂,Stp Z.X (Z.first Z.Ar.in1 d env D.names cs C (D.params++D.locals)).K { s with heap:=H } s₂→Dy (Z.first Z.Ar.in1 d env D.names cs C (D.params++D.locals)) σ₂ ws₂ s₂→Q ⟨⟩ s₂) →
   wpAny Z.X.M Z.Ar.in1 (forIn (D.params.zip vs) (⟨⟩:PUnit) fun (x:Str × Value) (_:PUnit)=>(match x with | (name,v)=>do storeName env name v; pure (ForInStep.yield ⟨⟩):Sem (ForInStep PUnit))) Q E { s with heap:=H })
  (run:∀ env cs C ws s₂,env=newEnv fd.scope C fd.globals cs (fd.qualname++".<locals>.") (some a) fd.code none fd.builtins→(∀ x,D.names.lookup x=some .cell→env.cells.lookup x=cs.lookup x)→FrameNew C D.names cs→(∀ a,OfFrame C cs a→s.heap.get? a=none∧Z.X.N≤a)→EnvOk env (D.sc nm) ((D.params++D.locals).map (locOf D.names cs C))→Stp Z.X Z.X.V s s₂ →
   Dy (Z.first (Z.Ar.deeper env) d env D.names cs C (D.params++D.locals)) σ₂ ws s₂→∀ E,wpAny Z.X.M (Z.Ar.deeper env) (execs stmts env) (fun f s₃=>Rr (.ok (.ret (match f with | .ret v=>v | _=>.none))) s₃) E s₂):codeAny Z.X.M Z.Ar (.call (.ref a) ⟨vs,[]⟩) Rr s:=by
 obtain ⟨o,ho,hod⟩:=A.obj _ V.g
 have R:Room Z.Ar (d+1):=hd▸V.R
 refine codeAny_call_function R.depth ho hod DO.co DO.gen DO.body (A.code _ V.g) ?_
 rw [DO.bind vs hlen,DO.clo]
 refine wpAny_pure (new_def_env ?_)
 have fo:=frame_ok s.heap fd.scope.names (.type "frame") (D.params++D.locals)
 rw [DO.names] at fo ⊢
 revert fo
 generalize pushCells (s.heap.push { cls:=.type "frame",data:=.dict #[] }) D.names=H
 generalize cellsFrom (s.heap.objs.size+1) D.names []=cs
 have new:∀ a,s.heap.objs.size≤a→s.heap.get? a=none∧Z.X.N≤a:=fun a l=>⟨get_ge l,Nat.le_trans (V.K.size _ V.g) l⟩
 revert new
 generalize s.heap.objs.size=C
 intro new ⟨N,hi,F,_,K⟩
 have hi:∀ a,OfFrame C cs a→s.heap.get? a=none∧Z.X.N≤a:=fun a u=>new a (hi a u)
 generalize he:newEnv fd.scope C fd.globals cs (fd.qualname++".<locals>.") (some a) fd.code none fd.builtins=env
 have hcs:env.cells=cs:=by rw [← he]; rfl
 have hC:env.locals=C:=by rw [← he]; rfl
 have EO:EnvOk env (D.sc nm) ((D.params++D.locals).map (locOf D.names cs C)):=by
  refine ⟨by rw [← he]; exact DO.kind,by rw [← he]; exact DO.names,by rw [← he]; exact DO.glob,by rw [← he]; exact DO.blt,List.length_map _,fun i x l e1 e2 e3=>?_,fun i x l e1 e2 e3=>?_,fun c q e=>by rw [← he]; exact DO.own c q e⟩
  ·rw [List.getElem?_map,show (D.params++D.locals)[i]?=some x from e1] at e2
   rw [← Option.some.inj e2,hC]
   unfold locOf
   rw [show D.names.lookup x=some .local from e3]; rfl
  ·rw [List.getElem?_map,show (D.params++D.locals)[i]?=some x from e1] at e2
   have e3:D.names.lookup x=some .cell:=e3.elim id fun q=>absurd q (DO.nofree x)
   obtain ⟨c,hc⟩:=N.has x (mem_of_lookup e3)
   refine ⟨c,by rw [hcs]; exact hc,?_⟩
   rw [← Option.some.inj e2]
   unfold locOf
   rw [e3,hc]; rfl
 have x₁:Stp Z.X Z.X.V s { s with heap:=H }:=V.ext (tk:=s.toks) K
 obtain ⟨ws,D₁⟩:=frame_first (env:=env) (Ar:=Z.Ar.deeper env) V R.deeper x₁ N hi F hC DO.nodup
 refine bind env cs C ws H EO hi K { D₁ with R:=R.in1 } _ _ fun ws₂ s₂ x₂ D₂=>?_
 have y₂:Stp Z.X Z.X.V s s₂:=x₁.on x₂ (fun b o k e=>⟨k,fun u=>none_at (hi b u).1 ⟨o,e⟩⟩) (Nat.le_refl _)
 exact ⟨V.K.nolimit _ D₂.g,codeAny_func (run env cs C ws₂ s₂ he.symm (fun x _=>by rw [hcs]) N hi EO y₂ { D₂ with R:=R.deeper } _)⟩
theorem par_to (DO:DefOk fd D stmts) {j:Nat} {x:Str} (e:D.params[j]?=some x):isTo (D.sc nm) j x=true:=by
 show ((D.params++D.locals)[j]?==some x&&_)=true
 rw [List.getElem?_append_left (List.getElem?_eq_some_iff.mp e).1,e,beq_self_eq_true]
 exact DO.store x (List.mem_append_left _ (List.mem_of_getElem? e))
theorem par_lt {j:Nat} {x:Str} (e:D.params[j]?=some x):j < (D.params++D.locals).length:=by rw [List.length_append]; exact Nat.lt_of_lt_of_le (List.getElem?_eq_some_iff.mp e).1 (Nat.le_add_right _ _)
theorem first_back {env:Env} {cs:List (Str × Addr)} {C:Addr} {s₂ s₃:Shared} {B U:Addr→Prop} (V:Bs Z s) {Ar:Around} (hi:∀ a,OfFrame C cs a→s.heap.get? a=none∧Z.X.N≤a) (y₂:Stp Z.X Z.X.V s s₂) (g:Grown (Z.first Ar d env D.names cs C (D.params++D.locals)) s₂ s₃ B U) :
  Stp Z.X Z.X.V s s₃∧∀ b,B b→Z.B b :=
 ⟨y₂.on g.x (fun b o k e=>⟨k,fun u=>none_at (hi b u).1 ⟨o,e⟩⟩) y₂.size,
  fun b q=>(g.hB b q).elim (fun q=>q.1) fun q=>q.elim (fun u=>V.fresh b (hi b u).2 (hi b u).1) fun n=>V.fresh b n.1 (y₂.live (.inl n.1) n.2)⟩
theorem def_run (V:Bs Z s) (A:FnAt Z.X a fd) (DO:DefOk fd D stmts) (hd:Z.d=d+1) (rl:Z.RepL s.heap ps vs) (hlen:ps.length=D.params.length)
  (run:∀ env cs C ws s₂,env=newEnv fd.scope C fd.globals cs (fd.qualname++".<locals>.") (some a) fd.code none fd.builtins→(∀ x,D.names.lookup x=some .cell→env.cells.lookup x=cs.lookup x)→FrameNew C D.names cs→(∀ a,OfFrame C cs a→s.heap.get? a=none∧Z.X.N≤a)→EnvOk env (D.sc nm) ((D.params++D.locals).map (locOf D.names cs C))→Stp Z.X Z.X.V s s₂ →
   Dy (Z.first (Z.Ar.deeper env) d env D.names cs C (D.params++D.locals)) (D.slots ps) ws s₂→∀ E,wpAny Z.X.M (Z.Ar.deeper env) (execs stmts env) (fun f s₃=>∃ B U,Grown (Z.first (Z.Ar.deeper env) d env D.names cs C (D.params++D.locals)) s₂ s₃ B U∧Done ((Z.first (Z.Ar.deeper env) d env D.names cs C (D.params++D.locals)).bu B U) f r s₃) E s₂):Gets Z s r (call (.ref a) vs):=by
 intro Q E h
 refine wpAny_call (def_frame (nm:=nm) V A DO hd (by rw [rl.len]; exact hlen) (σ₂:=D.slots ps) (fun env cs C ws H EO hi K D₁ Q E k=>?_) fun env cs C ws s₂ he hc N hi EO y₂ D₂ E'=>wpAny_mono (run env cs C ws s₂ he hc N hi EO y₂ D₂ E') (fun f s₃ q=>?_) fun _ _ e=>e)
 ·have rl₁:(Z.first Z.Ar.in1 d env D.names cs C (D.params++D.locals)).RepL H ps vs:=Mine.RepL.move (fun b o q e=>⟨⟨q,fun u=>none_at (hi b u).1 ⟨o,e⟩⟩,K b o e⟩) rl
  refine bind_params (Z:=Z.first Z.Ar.in1 d env D.names cs C (D.params++D.locals)) EO D.params vs ps 0 _ ws _ _ D₁ hlen.symm rl₁ (fun j x e=>by rw [Nat.zero_add]; exact ⟨par_to DO e,par_lt e⟩) fun ws₂ s₂ x₂ D₂=>?_
  have es:=setFrom_is ps [] D.locals.length
  rw [List.nil_append,List.nil_append] at es
  rw [show (D.params++D.locals).length=ps.length+D.locals.length by rw [List.length_append,hlen]] at D₂
  rw [show ([]:List Slot).length=0 from rfl] at es
  rw [es] at D₂
  exact k ws₂ s₂ x₂ D₂
 ·obtain ⟨B,U,g,en⟩:=q
  obtain ⟨y₃,fr⟩:=first_back V hi y₂ g
  rcases en with ⟨rfl,rfl⟩ | ⟨v,rfl,rv⟩
  ·exact h _ _ y₃ (rfl:Value.none=_)
  ·exact h _ _ y₃ (Mine.Rep.move rv fun b o q e=>⟨fr b q,e⟩)
end
end Mine
end
section
open PySem PySem.W PyProof.Rows
namespace Mine
section
variable {nm:Nms} {Z:Fr} {s:Shared} {ps:List PV} {vs:List Value} {r:PV} {a:Addr} {fd:FuncData} {D:Sig} {d:Nat}
noncomputable def defEv (D:Sig) (body:SL (D.sc nm)) (Φ:Fns) (ps:List PV):Option PV:=bif Nat.beq ps.length D.params.length then (body.ex Φ (D.slots ps)).bind fun o=>Out.casesOn (motive:=fun _=>Option PV) o (fun _=>some .none) (fun _=>none) some else none
theorem first_ex {Ar:Around} {env:Env} {cs:List (Str × Addr)} {C:Addr} {σ:List Slot} {ws:Nat→Option Value} (EO:EnvOk env (D.sc nm) ((D.params++D.locals).map (locOf D.names cs C))) (hnm:Z.X.nm=nm) (Dy₀:Dy (Z.first Ar d env D.names cs C (D.params++D.locals)) σ ws s) (P:Pf Z.X Z.Φ Ar d):Ex (Z.first Ar d env D.names cs C (D.params++D.locals)) (D.sc nm) σ ws s :=
 ⟨⟨⟨Dy₀,P,EO,hnm⟩,Nat.le_of_eq (List.length_map _)⟩,fun i x h=>(List.getElem?_eq_some_iff.mp (eq_of_beq (both h).1:(D.params++D.locals)[i]?=some x)).1⟩
theorem def_ok {body:SL (D.sc nm)} (V:Bs Z s) (A:FnAt Z.X a fd) (DO:DefOk fd D body.sts) (hd:Z.d=d+1) (hnm:Z.X.nm=nm) (P:∀ Ar,Room Ar d→Pf Z.X Z.Φ Ar d) (rl:Z.RepL s.heap ps vs) (e:defEv D body Z.Φ ps=some r):Gets Z s r (call (.ref a) vs):=by
 unfold defEv at e
 cases hl:Nat.beq ps.length D.params.length with
 | false=>rw [hl] at e; exact no e
 | true =>
  rw [hl] at e
  refine onBind e fun o e1 e2=>def_run (nm:=nm) V A DO hd rl (Nat.eq_of_beq_eq_true hl) fun env cs C ws s₂ _ _ N hi EO x D₂ E=>?_
  refine body.ok (first_ex EO hnm D₂ (P _ D₂.R)) e1 _ E fun f s₃ B U g en=>⟨B,U,g,?_⟩
  cases o with
  | next σ=>exact .inl ⟨en.1,(Option.some.inj e2).symm⟩
  | brk σ=>exact no e2
  | ret p =>
   obtain ⟨v,hf,rv⟩:=en
   exact .inr ⟨v,hf,Option.some.inj e2▸rv⟩
end
end Mine
end
section
open PySem PySem.W PyProof.Rows
open Sem (wp)
namespace Mine
theorem next_gen {prog:Program} {w:World} {Ar:Around} {E:Value→Shared→Prop} {s:Shared} {a:Addr} {g n:Nat} {gs:GenState} {P:Nat→Shared→Shared→Prop} {Y:Protocol} {Q:Option Value→Shared→Prop} (hh:Ar.handled=none)
  (hl:s.heap.NoLimit) (hroom:Ar.depth < recursionLimit) (hg:s.heap.IsGen a g) (hgs:s.gens[g]?=some gs)
  (hgo:gs.Goes (model prog w) Ar.in1 (fun n s₀ r s₁=>r=.ok (.ret .none)∧P n s₀ s₁) Y n (.send .none) (s.setGen g .running))
  (hY:∀ v s₁ gs',gs'.bare=true→Y (n - 1) (s.setGen g .running) v s₁ (fun r' s''=>match n with
    | 0=>False
    | m+1=>gs'.Goes (model prog w) Ar.in1 (fun n s₀ r s₁=>r=.ok (.ret .none)∧P n s₀ s₁) Y m r' s'')→Q (some v) (s₁.setGen g gs'))
  (hP:∀ s₁,P n (s.setGen g .running) s₁→∀ h',Ext s₁.heap h'→Q none { s₁.setGen g .finished with heap:=h' }) :
  wpAny (model prog w) Ar (pyNext (.ref a)) Q E s:=by
 unfold pyNext
 refine wpAny_bind (wpAny_attempt (wpAny_callSpecial?_slot (name:=Str.ofString "__next__") hg.typeIs slot_gen_next
  (wpAny_call_entry slot_gen_next hg.typeIs entry_gen_next ?_ (args_gen_next _))))
 show wpAny _ Ar.in1 (Builtin.Generator.genWake (.ref a) (.send .none)) _ _ s
 unfold Builtin.Generator.genWake
 refine wpAny_bind (wpAny_holding (wpAny_genNumber hg (wpAny_bind (wpAny_genState hgs ?_))))
 cases gs with
 | running=>exact hgo.elim
 | finished=>exact hgo.elim
 | _ =>
  refine wpAny_bind (wpAny_roomToWake hl hroom ?_)
  show wpAny _ Ar.in1 (.resume g (.send .none) [] _) _ _ s
  refine wpAny_resumeQ hgs hgo (fun x s₁ hx=>?_) (fun v s₁ gs' hb hv=>?_)
  ·obtain ⟨rfl,hp⟩:=hx
   show wpAny _ Ar.in1 (newExc (.type "StopIteration") [] >>= _) _ _ _
   refine wpAny_bind ?_
   simp only [newExc,newTuple]
   refine wpAny_bind (wpAny_newObj_type ?_ (by size_fits))
   refine wpAny_bind (m:=firstArgMember _ _) (wpAny_of_eq (a:=Value.none) (by first | rfl | (simp only [firstArgMember]; rfl)) ?_)
   refine wpAny_newObj_type ?_ (by size_fits)
   simp only [raiseNew]
   refine wpAny_bind (wpAny_bind (wpAny_handled ?_))
   rw [show Ar.in1.handled=none from hh]
   refine wpAny_throw ?_
   refine wpAny_bind (wpAny_isInstance (T:="StopIteration") (b:=true) ⟨_,Heap.get?_push_size _ rfl,rfl⟩ isSubtype_stop ?_)
   exact wpAny_pure (hP s₁ hp _ fun b o hb=>Heap.get?_push_of_some _ (Heap.get?_push_of_some _ hb))
  ·exact wpAny_pure ⟨v,rfl,wpAny_pure (hY v s₁ gs' hb hv)⟩
section
variable {M:Model} {A:Around} {R:GenEnd} {Y:Protocol} {n:Nat} {s₀:Shared} {c:Code} {fs:List Frame} {s:Shared} {env:Env}
 {K:Flow→Sem Fin} {H:Value→Sem Fin} {gd:Bool→Bool} {lv:List Value→List Value}
theorem seg_plain {t:Sem Flow} (h:wpAny M (A.over c fs) t (fun f s'=>Seg M A R Y n s₀ c (K f) fs s') (fun x s'=>Seg M A R Y n s₀ c (H x) fs s') s):Seg M A R Y n s₀ c (t.wrap K H gd lv) fs s:=seg_wrap h
theorem seg_If {test:Expr} {body orelse:List Stmt} {pos:Pos} (h:wpAny M (A.over c fs) (isTrue test env (eval test env)) (fun b s'=>Seg M A R Y n s₀ c ((execs (if b=true then body else orelse) env).wrap K H gd lv) fs s') (fun x s'=>Seg M A R Y n s₀ c (H x) fs s') s) :
  Seg M A R Y n s₀ c ((exec (.If test body orelse pos) env).wrap K H gd lv) fs s:=by
 have e:exec (.If test body orelse pos) env=(standAt pos >>= fun _=>isTrue test env (eval test env) >>= fun b=>if b=true then execs body env else execs orelse env):=rfl
 rw [e]
 show Seg M A R Y n s₀ c (.at pos fun _=>(isTrue test env (eval test env) >>= fun b=>if b=true then execs body env else execs orelse env).wrap K H gd lv) fs s
 refine seg_at ?_
 rw [Sem.bind_eq_wrap',Sem.wrap_wrap]
 refine seg_wrap (wpAny_mono h (fun b s' hb=>?_) fun _ _ x=>x)
 cases b <;> exact hb
theorem seg_For {target iter:Expr} {body orelse:List Stmt} {pos:Pos} (hs:∀ x,foldedSetIterable iter env x=pure x)
  (h:wpAny M (A.over c fs) (eval iter env) (fun x s₁=>wpAny M (A.over c fs) (pyIter x) (fun it s₂=>∀ p,Seg M A R Y n s₀ (.forLoop target it body orelse env) (M.den (.forLoop target it body orelse env))
   (.ret (fun r=>((match r with | .ok f=>(.pure f:Sem Flow) | .error e=>.raise e).onRaise fun (x:Value)=>do
    if (← field x 1)==Value.none then unsupported "frame.own-activation:exception-without-traceback"
    setFlight x env.frame).wrap K H gd lv) none (gd false) (lv []) c p []::fs) s₂) (fun x s'=>Seg M A R Y n s₀ c (H x) fs s') s₁) (fun x s'=>Seg M A R Y n s₀ c (H x) fs s') s) :
  Seg M A R Y n s₀ c ((exec (.For target iter body orelse pos) env).wrap K H gd lv) fs s:=by
 have e:exec (.For target iter body orelse pos) env=(standAt pos >>= fun _=>eval iter env >>= fun y=>foldedSetIterable iter env y >>= fun x=>standAt iter.pos >>= fun _=>holding [x] (pyIter x) >>= fun it=>runOwn (.forLoop target it body orelse env) env):=rfl
 rw [e]
 show Seg M A R Y n s₀ c (.at pos fun _=>(eval iter env >>= fun y=>foldedSetIterable iter env y >>= fun x=>standAt iter.pos >>= fun _=>holding [x] (pyIter x) >>= fun it=>runOwn (.forLoop target it body orelse env) env).wrap K H gd lv) fs s
 refine seg_at ?_
 rw [Sem.bind_eq_wrap',Sem.wrap_wrap]
 refine seg_wrap (wpAny_mono h (fun x s₁ h₁=>?_) fun _ _ x=>x)
 rw [hs,pure_bind]
 show Seg M A R Y n s₀ c (.at iter.pos fun _=>(holding [x] (pyIter x) >>= fun it=>runOwn (.forLoop target it body orelse env) env).wrap K H gd lv) fs s₁
 refine seg_at ?_
 rw [Sem.bind_eq_wrap',Sem.wrap_wrap]
 refine seg_wrap (wpAny_holding (wpAny_mono h₁ (fun it s₂ h₂=>?_) fun _ _ x=>x))
 exact seg_call h₂
end
section
variable {prog:Program} {w:World} {A:Around} {R:GenEnd} {Y:Protocol} {n:Nat} {s₀:Shared} {fs:List Frame} {s:Shared} {env:Env}
theorem seg_forLoop {target:Expr} {it:Value} {body orelse:List Stmt}
  (h:wpAny (model prog w) (A.over (.forLoop target it body orelse env) fs) (pyNext it) (fun r s₁=>match r with
   | none=>Seg (model prog w) A R Y n s₀ (.forLoop target it body orelse env) (.pure (.again (.block orelse env))) fs s₁
   | some v=>wpAny (model prog w) (A.over (.forLoop target it body orelse env) fs) (letOwnedTupleGo target it v) (fun _ s₂=>wpAny (model prog w) (A.over (.forLoop target it body orelse env) fs) (assign target env v) (fun _ s₃ =>
     Seg (model prog w) A R Y n s₀ (.forLoop target it body orelse env) ((execs body env).wrap (fun f=>match f with
      | .next | .cont=>.pure (.again (.forLoop target it body orelse env))
      | .brk=>.pure (.done .next)
      | .ret v=>.pure (.done (.ret v))) (fun e=>(do noteFrame e env; theTreesLotGoes e:Sem Unit).wrap (fun _=>.raise e) .raise id id) id id) fs s₃)
     (fun x s'=>Seg (model prog w) A R Y n s₀ (.forLoop target it body orelse env) ((do noteFrame x env; theTreesLotGoes x:Sem Unit).wrap (fun _=>.raise x) .raise id id) fs s') s₂)
     (fun x s'=>Seg (model prog w) A R Y n s₀ (.forLoop target it body orelse env) ((do noteFrame x env; theTreesLotGoes x:Sem Unit).wrap (fun _=>.raise x) .raise id id) fs s') s₁)
   (fun x s'=>Seg (model prog w) A R Y n s₀ (.forLoop target it body orelse env) ((do noteFrame x env; theTreesLotGoes x:Sem Unit).wrap (fun _=>.raise x) .raise id id) fs s') s) :
  Seg (model prog w) A R Y n s₀ (.forLoop target it body orelse env) ((model prog w).den (.forLoop target it body orelse env)) fs s:=by
 show Seg _ A R Y n s₀ _ ((forTurn target it body orelse env).onRaise (fun x=>do noteFrame x env; theTreesLotGoes x)) fs s
 have e:forTurn target it body orelse env=(standAt target.pos >>= fun _=>(pyNext it).onRaise (fun _=>standAt { target.pos with line:=0 }) >>= fun r=>match r with
  | none=>again (.block orelse env)
  | some v=>letOwnedTupleGo target it v >>= fun _=>assign target env v >>= fun _=>execs body env >>= fun f=>match f with
   | .next | .cont=>again (.forLoop target it body orelse env)
   | .brk=>pure (.done .next)
   | .ret v=>pure (.done (.ret v))):=rfl
 rw [e,Sem.onRaise_eq_wrap]
 refine seg_at ?_
 show Seg _ A R Y n s₀ _ (Sem.wrap Sem.pure _ _ _ ((pyNext it).onRaise (fun _=>standAt { target.pos with line:=0 }) >>= fun r=>match r with
  | none=>again (.block orelse env)
  | some v=>letOwnedTupleGo target it v >>= fun _=>assign target env v >>= fun _=>execs body env >>= fun f=>match f with
   | .next | .cont=>again (.forLoop target it body orelse env)
   | .brk=>pure (.done .next)
   | .ret v=>pure (.done (.ret v)))) fs s
 rw [Sem.bind_eq_wrap',Sem.wrap_wrap]
 have EH:∀ x s',Seg (model prog w) A R Y n s₀ (.forLoop target it body orelse env) ((do noteFrame x env; theTreesLotGoes x:Sem Unit).wrap (fun _=>.raise x) .raise id id) fs s' →
   Seg (model prog w) A R Y n s₀ (.forLoop target it body orelse env) ((do noteFrame x env; theTreesLotGoes x:Sem Unit).bind fun _=>.raise x) fs s':=fun x s' q=>by
  rw [Sem.bind_eq_wrap]; exact q
 refine seg_wrap (wpAny_onRaise (wpAny_mono h (fun r s₁ h₁=>?_) fun x s' q=>wpAny_standAt (EH x s' q)))
 cases r with
 | none=>exact h₁
 | some v =>
  show Seg _ A R Y n s₀ _ (Sem.wrap _ _ _ _ (letOwnedTupleGo target it v >>= _)) fs s₁
  rw [Sem.bind_eq_wrap',Sem.wrap_wrap]
  refine seg_wrap (wpAny_mono h₁ (fun _ s₂ h₂=>?_) fun x s' q=>EH x s' q)
  rw [Sem.bind_eq_wrap',Sem.wrap_wrap]
  refine seg_wrap (wpAny_mono h₂ (fun _ s₃ h₃=>?_) fun x s' q=>EH x s' q)
  rw [Sem.bind_eq_wrap',Sem.wrap_wrap]
  rw [Sem.wrap_congr (execs body env) _ _ (K':=fun f=>match f with
      | .next | .cont=>.pure (.again (.forLoop target it body orelse env))
      | .brk=>.pure (.done .next)
      | .ret v=>.pure (.done (.ret v))) (H':=(fun e=>(do noteFrame e env; theTreesLotGoes e:Sem Unit).wrap (fun _=>.raise e) .raise id id))
    (fun f=>by cases f <;> rfl)
    (fun e=>by first | exact Sem.bind_eq_wrap _ _ | (show (do noteFrame e env; theTreesLotGoes e:Sem Unit).bind (fun _=>.raise e)=_; rw [Sem.bind_eq_wrap]))]
  exact h₃
end
end Mine
end
section
open PySem PySem.W PyProof.Rows
open Sem (wp)
namespace Mine
noncomputable def bareP (p:PV):Bool:=PV.casesOn (motive_1:=fun _=>Bool) p true (fun _=>true) (fun _=>true) (fun _=>true) (fun _=>true) (fun _=>false) (fun _=>false) (fun _ _=>false) fun _ _=>false
noncomputable def bareS (t:Slot):Bool:=Slot.casesOn (motive:=fun _=>Bool) t true bareP (fun _=>false) (fun _=>true) fun _=>true
noncomputable def bareL (σ:List Slot):Bool:=σ.all bareS
theorem bare_at {σ:List Slot} {i:Nat} {t:Slot} (h:bareL σ=true) (e:σ[i]?=some t):bareS t=true:=List.all_eq_true.mp h t (List.mem_of_getElem? e)
theorem bare_no {σ:List Slot} (h:bareL σ=true):NoOwn σ:=fun i xs e=>nomatch (bare_at h e:false=true)
theorem bare_rep {h h':Heap} {B B':Addr→Prop} {p:PV} {v:Value} (hs:bareP p=true) (r:Rep h B p v):Rep h' B' p v:=by
 cases p <;> first | exact r | exact nomatch hs
theorem Dy.norm {Z:Fr} {σ:List Slot} {ws:Nat→Option Value} {s s':Shared} {B' U':Addr→Prop} (D:Dy Z σ ws s) (hs:bareL σ=true) (kl:∀ l∈Z.ls,∀ o,s.heap.get? l.addr=some o→s'.heap.get? l.addr=some o) (kn:∀ o,s.heap.get? Z.env.locals=some o→s'.heap.get? Z.env.locals=some o)
  (g:Z.X.G s'.heap) (fresh:∀ a,Z.X.N≤a→s'.heap.get? a=none→B' a) (sub:∀ a,B' a→Z.X.V a) (dis:∀ a,U' a→¬ B' a) (turn:∀ a,U' a→Mut Z.X.N s'.heap a) (mine:∀ l∈Z.ls,U' l.addr):Dy (Z.bu B' U') σ ws s' :=
 {K:=D.K,R:=D.R,g:=g,fresh:=fresh,sub:=sub,dis:=dis,turn:=turn,len:=D.len,hi:=D.hi,apart:=D.apart,once:=D.once
  pl:=fun i l e=>(D.pl i l e).keep (kl l (List.mem_of_getElem? e))
  mine:=fun i l _ e=>mine l (List.mem_of_getElem? e)
  ownU:=fun i xs a _ e _=>absurd e (bare_no hs i xs)
  nsl:=⟨D.nsl.1,D.nsl.2.imp fun m q=>q.at' kn⟩
  ok:=fun i t e=>by
   have q:=D.ok i t e
   have c:=bare_at hs e
   cases t with
   | unset=>trivial
   | val p=>exact q.imp fun v q=>⟨q.1,bare_rep c q.2⟩
   | own xs=>exact nomatch c
   | is v=>exact q
   | fn v=>exact q }
structure Gx where
 Z:Fr
 A:Around
 c:Code
 fs:List Frame
 own:Addr→Prop
 J:Heap→Prop
 C:Addr
 g:Nat
 xs:List PV
def Gx.B (x:Gx) (s₀:Shared) (a:Addr):Prop:=(x.Z.X.N≤a∧s₀.heap.get? a=none)∧¬ x.own a
abbrev Gx.fr (x:Gx) (s₀:Shared):Fr:=x.Z.bu (x.B s₀) fun a=>a=x.C
structure GxOk (x:Gx) (sc:SC):Prop where
 P:Pf x.Z.X x.Z.Φ x.Z.Ar x.Z.d
 EO:EnvOk x.Z.env sc x.Z.ls
 nm:x.Z.X.nm=sc.nm
 al:x.Z.ls.length≤x.Z.ow
 to:∀ (i:Nat) (y:Str),isTo sc i y=true→i < x.Z.wr
 ar:x.Z.Ar=x.A.over x.c x.fs
 all:∀ l∈x.Z.ls,l.addr=x.C
 loc:x.Z.env.locals=x.C
 mine:x.own x.C
 jk:∀ h h',x.J h→(∀ a o,x.own a→a≠x.C→h.get? a=some o→h'.get? a=some o)→x.J h'
 fsp:splitAtGen x.fs=none
 hfg:x.fs.any Frame.guarded=false
 hco:x.Z.env.scope.isCoroutine=false
 hin:interactive x.Z.env=false
structure GIn (x:Gx) (σ:List Slot) (s₀ s:Shared):Prop where
 D:∃ ws,Dy (x.fr s₀) σ ws s
 sc:bareL σ=true
 nx:St x.Z.X (x.Z.X.VW x.own) x.g s₀ s
 mt:∀ a,x.own a→Mut x.Z.X.N s.heap a
 jj:x.J s.heap
 gz:x.g≤s.gens.size
def genY (X:Cx) (own:Addr→Prop) (g:Nat) (xs:List PV):Protocol:=fun m s₀ v s' kap =>
 ∃ p,xs[xs.length - 1 - m]?=some p∧Mine.Rep s'.heap (fun a=>(X.N≤a∧s₀.heap.get? a=none)∧¬ own a) p v∧St X (X.VW own) g s₀ s'∧(∀ a,own a→Mut X.N s'.heap a)∧X.G s'.heap ∧
  ∀ s'',X.G s''.heap→(∀ a o,own a→s'.heap.get? a=some o→s''.heap.get? a=some o)→g≤s''.gens.size→kap (.send .none) s''
def genR (X:Cx) (own:Addr→Prop) (g:Nat):GenEnd:=fun n s₀ r s₁=>r=.ok (.ret .none)∧(n=0∧St X (X.VW own) g s₀ s₁)
abbrev Gx.Seg (x:Gx) (n:Nat) (s₀:Shared) (t:Sem Fin) (s:Shared):Prop:=PySem.Seg x.Z.X.M x.A (genR x.Z.X x.own x.g) (genY x.Z.X x.own x.g x.xs) n s₀ x.c t x.fs s
section
variable {x:Gx} {sc:SC} {σ σ':List Slot} {ws:Nat→Option Value} {s₀ s s':Shared} {B' U':Addr→Prop}
theorem GIn.ex (G:GIn x σ s₀ s) (O:GxOk x sc):∃ ws,Ex (x.fr s₀) sc σ ws s:=G.D.imp fun ws D=>⟨⟨⟨D,O.P,O.EO,O.nm⟩,O.al⟩,O.to⟩
theorem St.gz {X:Cx} {K:Addr→Prop} {g:Nat} (y:St X K g s s') (h:g≤s.gens.size):g≤s'.gens.size:=by
 cases g with
 | zero=>exact Nat.zero_le _
 | succ k=>exact (Array.getElem?_eq_some_iff.mp (y.gens k _ (Nat.lt_succ_self k) (Array.getElem?_eq_getElem h))).1
theorem in_B (nx:St x.Z.X (x.Z.X.VW x.own) x.g s₀ s) (mt:∀ a,x.own a→Mut x.Z.X.N s.heap a) {a:Addr} (n:x.Z.X.N≤a) (e:s.heap.get? a=none):x.B s₀ a :=
 have w:¬ x.own a:=fun w=>none_at e ((mt a w).2.imp fun _ q=>q.1)
 ⟨⟨n,nx.live ⟨.inl n,w⟩ e⟩,w⟩
theorem GIn.go (G:GIn x σ s₀ s) (O:GxOk x sc) (y:Stp x.Z.X (x.fr s₀).K s s') (D:Dy (x.Z.bu B' U') σ' ws s') (hs:bareL σ'=true):GIn x σ' s₀ s':=by
 have mC:Mut x.Z.X.N s'.heap x.C:=by
  obtain ⟨n,m,h⟩:=D.nsl
  obtain ⟨o,e,c,_⟩:=ns_code h
  exact O.loc▸⟨n,o,e,c⟩
 have mt:∀ a,x.own a→Mut x.Z.X.N s'.heap a:=fun a w=>by
  by_cases e:a=x.C
  ·exact e▸mC
  ·exact ⟨(G.mt a w).1,(G.mt a w).2.imp fun o q=>⟨y.off a o ⟨.inl (G.mt a w).1,e⟩ q.1,q.2⟩⟩
 have nx:St x.Z.X (x.Z.X.VW x.own) x.g s₀ s':=G.nx.on y (fun a o k e=>⟨k.1,fun q=>k.2 (q▸O.mine)⟩) G.gz
 exact ⟨⟨ws,D.norm hs (fun _ _ _ e=>e) (fun _ e=>e) D.g (fun a n e=>in_B nx mt n e) (fun a b=>.inl b.1.1) (fun a u b=>b.2 (u▸O.mine)) (fun a u=>u▸mC) O.all⟩,hs,nx,mt,O.jk _ _ G.jj fun a o w n e=>y.off a o ⟨.inl (G.mt a w).1,n⟩ e,Nat.le_trans G.gz y.size⟩
theorem GIn.go0 (G:GIn x σ s₀ s) (O:GxOk x sc) (y:Stp x.Z.X x.Z.X.V s s'):GIn x σ s₀ s':=by
 obtain ⟨ws,D⟩:=G.D
 exact G.go O (y.weak fun _ k=>k.1) (D.step y) G.sc
structure GS (sc:SC) where
 st:Stmt
 ev:Fns→List Slot→Option (List PV × List Slot)
 ok:∀ {x:Gx} {H:Value→Sem Fin} {gd:Bool→Bool} {lv:List Value→List Value} {σ σ':List Slot} {s₀ s:Shared} {K:Flow→Sem Fin} {ys pre rest:List PV},GxOk x sc→gd false=false→GIn x σ s₀ s→ev x.Z.Φ σ=some (ys,σ')→x.xs=pre++(ys++rest) →
  (∀ s₀' s',GIn x σ' s₀' s'→x.Seg rest.length s₀' (K .next) s')→x.Seg (ys++rest).length s₀ ((exec st x.Z.env).wrap K H gd lv) s
structure GL (sc:SC) where
 sts:List Stmt
 ev:Fns→List Slot→Option (List PV × List Slot)
 ok:∀ {x:Gx} {H:Value→Sem Fin} {gd:Bool→Bool} {lv:List Value→List Value} {σ σ':List Slot} {s₀ s:Shared} {K:Flow→Sem Fin} {ys pre rest:List PV},GxOk x sc→gd false=false→GIn x σ s₀ s→ev x.Z.Φ σ=some (ys,σ')→x.xs=pre++(ys++rest) →
  (∀ s₀' s',GIn x σ' s₀' s'→x.Seg rest.length s₀' (K .next) s')→x.Seg (ys++rest).length s₀ ((execs sts x.Z.env).wrap K H gd lv) s
noncomputable def GS.plain (a:SS sc):GS sc:=⟨a.st,fun Φ σ=>(a.ex Φ σ).bind fun o=>Out.casesOn (motive:=fun _=>Option (List PV × List Slot)) o (fun σ'=>bif bareL σ' then some ([],σ') else none) (fun _=>none) fun _=>none,
 fun {x H gd lv σ σ' s₀ s K ys pre rest} O hg G e hx hk=>onBind e fun o e1 e2=>by
  obtain ⟨ws,V⟩:=G.ex O
  cases o with
  | brk _=>exact no e2
  | ret _=>exact no e2
  | next σ₁ =>
   cases hc:bareL σ₁ with
   | false=>rw [show (Out.casesOn (motive:=fun _=>Option (List PV × List Slot)) (Out.next σ₁) (fun σ'=>bif bareL σ' then some ([],σ') else none) (fun _=>none) fun _=>none)=(bif bareL σ₁ then some ([],σ₁) else none) from rfl,hc] at e2; exact no e2
   | true =>
    rw [show (Out.casesOn (motive:=fun _=>Option (List PV × List Slot)) (Out.next σ₁) (fun σ'=>bif bareL σ' then some ([],σ') else none) (fun _=>none) fun _=>none)=(bif bareL σ₁ then some ([],σ₁) else none) from rfl,hc] at e2
    obtain ⟨rfl,rfl⟩:=Prod.mk.inj (Option.some.inj e2)
    refine seg_plain (O.ar▸(a.ok V e1) _ _ fun f s' B U g en=>?_)
    obtain ⟨rfl,ws',V'⟩:=en
    exact hk s₀ s' (G.go O g.x V'.toDy hc)⟩
theorem told {xs pre rest:List PV} {p:PV} (h:xs=pre++([p]++rest)):xs[xs.length - 1 - rest.length]?=some p:=by
 subst h
 rw [List.length_append,List.length_append,List.length_singleton,Nat.add_comm 1 rest.length,← Nat.add_assoc,Nat.add_sub_cancel,Nat.add_sub_cancel,List.getElem?_append_right (Nat.le_refl _),Nat.sub_self]; rfl
noncomputable def GS.yld (v:SE sc) (yp pos:Pos):GS sc:=⟨.Expr (.Yield (some v.e) yp) pos,fun Φ σ=>(v.ev Φ σ).map fun p=>([p],σ),
 fun {x H gd lv σ σ' s₀ s K ys pre rest} O hg G e hx hk=>onMap e fun p e1 e2=>by
  obtain ⟨rfl,rfl⟩:=Prod.mk.inj e2
  obtain ⟨ws,V⟩:=G.ex O
  refine seg_Expr_Yield O.fsp hg O.hfg (O.ar▸v.go (Z:=x.fr s₀) V.toEv e1 fun w s' y V' r=>?_) O.hco O.hin
  intro kap hkap
  have G':=G.go0 O y
  refine ⟨p,told hx,r,G'.nx,G'.mt,V'.g,fun s'' g'' h1 h2=>hkap _ _ (hk s'' s'' ?_)⟩
  have mt:∀ a,x.own a→Mut x.Z.X.N s''.heap a:=fun a w=>⟨(G'.mt a w).1,(G'.mt a w).2.imp fun o q=>⟨h1 a o w q.1,q.2⟩⟩
  have kc:∀ o,s'.heap.get? x.C=some o→s''.heap.get? x.C=some o:=fun o=>h1 _ o O.mine
  exact ⟨⟨ws,V'.toDy.norm (Z:=x.fr s₀) G.sc (fun l m=>(O.all l m).symm▸kc) (O.loc.symm▸kc) g'' (fun a n e=>in_B .refl mt n e) (fun a b=>.inl b.1.1) (fun a u b=>b.2 (u▸O.mine)) (fun a u=>u▸mt _ O.mine) O.all⟩,G.sc,.refl,mt,O.jk _ _ G'.jj fun a o w _ e=>h1 a o w e,h2⟩⟩
noncomputable def GS.ite (t:SB sc) (a b:GL sc) (pos:Pos):GS sc:=⟨.If t.e a.sts b.sts pos,fun Φ σ=>(t.ev Φ σ).bind fun k=>bif k then a.ev Φ σ else b.ev Φ σ,
 fun {x H gd lv σ σ' s₀ s K ys pre rest} O hg G e hx hk=>onBind e fun k e1 e2=>by
  obtain ⟨ws,V⟩:=G.ex O
  refine seg_If (O.ar▸t.go (Z:=x.fr s₀) V.toEv e1 fun s' y V'=>?_)
  cases k with
  | true=>exact a.ok O hg (G.go0 O y) e2 hx hk
  | false=>exact b.ok O hg (G.go0 O y) e2 hx hk⟩
noncomputable def GL.nil:GL sc:=⟨[],fun _ σ=>some ([],σ),fun {x H gd lv σ σ' s₀ s K ys pre rest} O hg G e hx hk=>by
 obtain ⟨rfl,rfl⟩:=Prod.mk.inj (Option.some.inj e)
 exact seg_execs_nil (hk s₀ s G)⟩
noncomputable def GL.cons (a:GS sc) (r:GL sc):GL sc:=⟨a.st::r.sts,fun Φ σ=>(a.ev Φ σ).bind fun y=>(r.ev Φ y.2).map fun z=>(y.1++z.1,z.2),
 fun {x H gd lv σ σ' s₀ s K ys pre rest} O hg G e hx hk=>onBind e fun y e1 e0=>onMap e0 fun z e2 e3=>by
  clear e0
  obtain ⟨y1,σ1⟩:=y
  obtain ⟨y2,σ2⟩:=z
  obtain ⟨rfl,rfl⟩:=Prod.mk.inj e3
  rw [List.append_assoc] at hx ⊢
  exact seg_execs_cons (a.ok O hg G e1 hx fun s₀' s' G'=>r.ok O hg G' e2 (hx.trans (List.append_assoc _ _ _).symm) hk)⟩
end
end Mine
end
section
open PySem PySem.W PyProof.Rows
open Sem (wp)
namespace Mine
section
variable {prog:Program} {w:World} {A:Around} {E:Value→Shared→Prop} {s:Shared}
theorem strIter_cases (x:Str):strIterType x="str_ascii_iterator"∨strIterType x="str_iterator":=by
 unfold strIterType; split
 ·exact .inl rfl
 ·exact .inr rfl
theorem str_end {it:Addr} {x:Str} {t:Tok} {i:Nat} {Q:Value→Shared→Prop} (hh:A.handled=none) (hit:s.heap.IsStrIter it (strIterType x) x t i) (hx:x.cps[i]?=none)
  (hE:∀ h' e,Heap.ExtBut it s.heap h'→(∃ o,h'.get? it=some o∧o.cls=.type (strIterType x))→(∃ o,h'.get? e=some o∧o.cls=.type "StopIteration")→E (.ref e) { s with heap:=h' }) :
  wpAny (model prog w) A (Builtin.SmallTypes.nextOf (.ref it)) Q E s:=by
 obtain ⟨o,ho,hc,hd⟩:=id hit
 have hupd:=Heap.get?_update_self (h:=s.heap) (Obj.mapFields (fun vs=>vs.setIfInBounds 0 Value.none)) ho (Obj.isFreed_of_fields (Obj.data_mapFields hd _))
 rcases strIter_cases x with e | e <;> rw [e] at hit hc hE
 ·unfold Builtin.SmallTypes.nextOf
  refine wpAny_bind (wpAny_callSpecial?_slot (name:=Str.ofString "__next__") hit.typeIs F.slot_str_ascii_iterator_next
   (wpAny_call_entry F.slot_str_ascii_iterator_next hit.typeIs F.entry_str_ascii_iterator_next ?_ (F.args_str_ascii_iterator_next_1 _)))
  show wpAny _ _ (field (.ref it) 0 >>= _) _ _ s
  refine wpAny_bind (wpAny_field ho hd (x:=.str x t) rfl ?_)
  show wpAny _ _ (field (.ref it) 1 >>= _) _ _ s
  refine wpAny_bind (wpAny_field ho hd (x:=.int i 0) rfl ?_)
  simp only [Int.toNat_natCast,hx]
  refine wpAny_bind (wpAny_rule (wpAny_bind (wpAny_setField ho hd (by simp) (wpAny_bind (wpAny_letGo ?_)))))
  show wpAny _ _ (newExc (.type "StopIteration") [] >>= _) _ _ _
  simp only [newExc,newTuple]
  refine wpAny_bind (wpAny_bind (wpAny_newObj_type ?_ (by size_fits)))
  refine wpAny_bind (m:=firstArgMember _ _) (wpAny_of_eq (a:=Value.none) (by first | rfl | (simp only [firstArgMember]; rfl)) ?_)
  refine wpAny_newObj_type ?_ (by size_fits)
  simp only [raiseNew]
  refine wpAny_bind (wpAny_handled ?_)
  first | rw [show A.in1.handled=none from hh] | rw [hh]
  refine wpAny_bind (wpAny_pure (wpAny_throw ?_))
  exact hE _ _ (((Heap.SameBut.update ..).extBut.push _).push _) ⟨_,Heap.get?_push_of_some _ (Heap.get?_push_of_some _ hupd),(Obj.cls_mapFields ..).trans hc⟩ ⟨_,Heap.get?_push_size _ rfl,rfl⟩
 ·unfold Builtin.SmallTypes.nextOf
  refine wpAny_bind (wpAny_callSpecial?_slot (name:=Str.ofString "__next__") hit.typeIs F.slot_str_iterator_next
   (wpAny_call_entry F.slot_str_iterator_next hit.typeIs F.entry_str_iterator_next ?_ (F.args_str_iterator_next_1 _)))
  show wpAny _ _ (field (.ref it) 0 >>= _) _ _ s
  refine wpAny_bind (wpAny_field ho hd (x:=.str x t) rfl ?_)
  show wpAny _ _ (field (.ref it) 1 >>= _) _ _ s
  refine wpAny_bind (wpAny_field ho hd (x:=.int i 0) rfl ?_)
  simp only [Int.toNat_natCast,hx]
  refine wpAny_bind (wpAny_rule (wpAny_bind (wpAny_setField ho hd (by simp) (wpAny_bind (wpAny_letGo ?_)))))
  show wpAny _ _ (newExc (.type "StopIteration") [] >>= _) _ _ _
  simp only [newExc,newTuple]
  refine wpAny_bind (wpAny_bind (wpAny_newObj_type ?_ (by size_fits)))
  refine wpAny_bind (m:=firstArgMember _ _) (wpAny_of_eq (a:=Value.none) (by first | rfl | (simp only [firstArgMember]; rfl)) ?_)
  refine wpAny_newObj_type ?_ (by size_fits)
  simp only [raiseNew]
  refine wpAny_bind (wpAny_handled ?_)
  first | rw [show A.in1.handled=none from hh] | rw [hh]
  refine wpAny_bind (wpAny_pure (wpAny_throw ?_))
  exact hE _ _ (((Heap.SameBut.update ..).extBut.push _).push _) ⟨_,Heap.get?_push_of_some _ (Heap.get?_push_of_some _ hupd),(Obj.cls_mapFields ..).trans hc⟩ ⟨_,Heap.get?_push_size _ rfl,rfl⟩
theorem enum_str_end {e it:Addr} {x:Str} {t:Tok} {i:Nat} {j:Int} {old:Value} {Q:Option Value→Shared→Prop} (hh:A.handled=none) (he:IsEnum s.heap e it j old) (hst:s.heap.IsStrIter it (strIterType x) x t i) (hx:x.cps[i]?=none)
  (hQ:∀ h',Heap.ExtBut it s.heap h'→(∃ o,h'.get? it=some o∧o.cls=.type (strIterType x))→Q none { s with heap:=h' }):wpAny (model prog w) A (pyNext (.ref e)) Q E s:=by
 have hT:s.TypeIs (.ref e) "enumerate":=⟨_,he,rfl⟩
 unfold pyNext
 refine wpAny_bind (wpAny_attempt (wpAny_callSpecial?_slot (name:=Str.ofString "__next__") hT F.slot_enumerate_next
  (wpAny_call_entry F.slot_enumerate_next hT F.entry_enumerate_next ?_ (F.args_enumerate_next_1 _))))
 show wpAny _ _ (field (.ref e) 2 >>= _) _ _ _
 refine wpAny_bind (wpAny_field he rfl (x:=.ref it) rfl ?_)
 refine wpAny_bind (str_end (show A.in1.handled=none from hh) hst hx fun h' x he' hit' hx'=>?_)
 obtain ⟨o,ho,hc⟩:=hx'
 refine wpAny_bind (wpAny_isInstance (T:="StopIteration") (b:=true) ⟨o,ho,hc⟩ isSubtype_stop ?_)
 exact wpAny_pure (hQ _ he' hit')
end
section
variable {Z:Fr}
def EnumAt (x:Str) (t:Tok) (I:Addr) (i:Nat) (h:Heap):Prop:=(∃ old,IsEnum h (I+1) I (i:Nat) old)∧h.IsStrIter I (strIterType x) x t i
theorem wk_str (hh:Z.Ar.handled=none) (x:Str) (t:Tok) (I:Addr):∃ M,Wk Z.X Z.Ar (I+1) [I+1,I] [I,I+1] x.cps.size true (fun i=>Made fun vs=>∃ t v,vs=[.int (i:Nat) t,v]∧∃ c u,x.cps[i]?=some c∧v=.str ⟨#[c]⟩ u) (EnumAt x t I) M:=by
 have ne:I+1≠I:=Nat.succ_ne_self I
 have nm:I+1 ∉ [I]:=fun m=>ne (List.mem_singleton.mp m)
 unfold EnumAt
 rcases strIter_cases x with e | e <;> rw [e]
 ·exact ⟨_,wk_enum (Draws.strAscii (A:=Z.Ar.in1) hh I x t) ne nm List.mem_cons_self (fun i h st=>st.imp fun o q=>⟨q.1,q.2.1⟩) (by decide)⟩
 ·exact ⟨_,wk_enum (Draws.strWide (A:=Z.Ar.in1) hh I x t) ne nm List.mem_cons_self (fun i h st=>st.imp fun o q=>⟨q.1,q.2.1⟩) (by decide)⟩
end
structure SZ (sc:SC) where
 st:Stmt
 f:List Slot→List Slot
 b:∀ {σ:List Slot},bareL σ=true→bareL (f σ)=true
 ok:∀ {Z:Fr} {σ:List Slot} {ws:Nat→Option Value} {s:Shared} {Q:Flow→Shared→Prop} {E:Value→Shared→Prop},Ex Z sc σ ws s→(∀ ws' s',Stp Z.X Z.K s s'→Dy Z (f σ) ws' s'→s'.heap.objs.size=s.heap.objs.size→Q .next s')→wpAny Z.X.M Z.Ar (exec st Z.env) Q E s
theorem bare_set {σ:List Slot} {i:Nat} {p:PV} (hp:bareP p=true) (h:bareL σ=true):bareL (σ.set i (.val p))=true :=
 List.all_eq_true.mpr fun x m=>(List.mem_or_eq_of_mem_set m).elim (fun q=>List.all_eq_true.mp h x q) fun q=>q▸hp
section
variable {sc:SC}
noncomputable def SZ.int (t:Tg) (i:Int) (k:Nat) (p pos:Pos) (h:t.ok sc=true):SZ sc:=⟨.Assign [t.e] (.Constant (.int i) k p) pos,fun σ=>σ.set t.i (.val (.int i)),bare_set rfl,
 fun {Z σ ws s Q E} V q=>wpAny_Assign_Name (wpAny_Constant_int (storeZ (V.step V.toBs.toks).toDy V.EO (t:=.val (.int i)) h (V.to _ _ h) ⟨_,rfl,Rep.mkInt⟩ (fun _ z=>nomatch z) fun s' x D z=>q _ s' ((V.toBs.toks (K:=Z.K) (g:=s.gens.size)).trans x) D z)) rfl⟩
noncomputable def SZ.bool (t:Tg) (i:Bool) (k:Nat) (p pos:Pos) (h:t.ok sc=true):SZ sc:=⟨.Assign [t.e] (.Constant (.bool i) k p) pos,fun σ=>σ.set t.i (.val (.bool i)),bare_set rfl,
 fun {Z σ ws s Q E} V q=>wpAny_Assign_Name (wpAny_Constant_bool (storeZ V.toDy V.EO (t:=.val (.bool i)) h (V.to _ _ h) ⟨_,rfl,(rfl:Value.bool i=_)⟩ (fun _ z=>nomatch z) fun s' x D z=>q _ s' x D z)) rfl⟩
end
end Mine
end
section
open PySem PySem.W PyProof.Rows
open Sem (wp)
namespace Mine
noncomputable def gloop (bind:PV→List Slot→Option (List Slot)) (f:List Slot→Option (List PV × List Slot)) (xs:List PV):List Slot→Option (List PV × List Slot) :=
 List.rec (motive:=fun _=>List Slot→Option (List PV × List Slot)) (fun σ=>some ([],σ)) (fun x _ r σ=>(bind x σ).bind fun σ₁=>bif bareL σ₁ then (f σ₁).bind fun y=>(r y.2).map fun z=>(y.1++z.1,z.2) else none) xs
theorem gloop_cons {bind:PV→List Slot→Option (List Slot)} {f:List Slot→Option (List PV × List Slot)} {x:PV} {xs:List PV} {σ:List Slot} {o:List PV × List Slot} (e:gloop bind f (x::xs) σ=some o) :
  ∃ σ₁ y1 σ2 y2 σ3,bind x σ=some σ₁∧bareL σ₁=true∧f σ₁=some (y1,σ2)∧gloop bind f xs σ2=some (y2,σ3)∧o=(y1++y2,σ3) :=
 onBind e fun σ₁ e1 e=>by
  cases hb:bareL σ₁ with
  | false=>rw [hb] at e; exact no e
  | true =>
   rw [hb] at e
   exact onBind e fun y e2 e=>onMap e fun z e3 e4=>⟨σ₁,y.1,y.2,z.1,z.2,e1,hb,e2,e3,e4.symm⟩
section
variable {sc:SC} {Z:Fr} {A:Around} {fs:List Frame} {own:Addr→Prop} {C:Addr} {g:Nat} {xs:List PV} {I:Addr} {y:Str} {t:Tok}
abbrev loopX (Z:Fr) (A:Around) (tg:SP sc) (body:GL sc) (fs:List Frame) (own:Addr→Prop) (C:Addr) (g:Nat) (xs:List PV) (I:Addr) (J:Heap→Prop):Gx:=⟨Z,A,.forLoop tg.e (.ref (I+1)) body.sts [] Z.env,fs,own,J,C,g,xs⟩
theorem seg_loop {tg:SP sc} {body:GL sc} (hI:∀ a,a∈[I,I+1]→own a∧a≠C) (hN:Z.X.N≤I) (tp:tg.tp=true) (ts:tg.ts.all (Tg.ok sc)=true)
  (O:∀ J,(∀ h h',J h→(∀ a o,own a→a≠C→h.get? a=some o→h'.get? a=some o)→J h')→GxOk (loopX Z A tg body fs own C g xs I J) sc) (R:Z.Ar.handled=none) :
  ∀ (rem:List PV) (i:Nat) {σ σ':List Slot} {s₀ s:Shared} {ys pre rest:List PV},(enumL 0 (signs y)).drop i=rem→i≤(enumL 0 (signs y)).length→GIn (loopX Z A tg body fs own C g xs I (EnumAt y t I i)) σ s₀ s→gloop tg.bind (body.ev Z.Φ) rem σ=some (ys,σ')→xs=pre++(ys++rest) →
   (∀ s₀' s',GIn (loopX Z A tg body fs own C g xs I fun _=>True) σ' s₀' s'→(loopX Z A tg body fs own C g xs I fun _=>True).Seg rest.length s₀' (.pure (.again (.block [] Z.env))) s') →
   (loopX Z A tg body fs own C g xs I fun _=>True).Seg (ys++rest).length s₀ (Z.X.M.den (.forLoop tg.e (.ref (I+1)) body.sts [] Z.env)) s:=by
 have jk:∀ i,∀ h h',EnumAt y t I i h→(∀ a o,own a→a≠C→h.get? a=some o→h'.get? a=some o)→EnumAt y t I i h':=fun i h h' q k =>
  have k:∀ a o,a∈[I,I+1]→h.get? a=some o→h'.get? a=some o:=fun a o m=>k a o (hI a m).1 (hI a m).2
  ⟨q.1.imp fun old z=>k _ _ (by simp) z,q.2.imp fun o z=>⟨k _ _ (by simp) z.1,z.2⟩⟩
 have OT:=O (fun _=>True) fun _ _ _ _=>trivial
 have har:Z.Ar=A.over (.forLoop tg.e (.ref (I+1)) body.sts [] Z.env) fs:=OT.ar
 have nC:∀ a,a∈[I,I+1]→a≠C:=fun a m=>(hI a m).2
 obtain ⟨M,W⟩:=wk_str (Z:=Z) R y t I
 have len:(enumL 0 (signs y)).length=y.cps.size:=(enumL_len _ _).trans (signs_len y).symm
 have step:∀ {i j:Nat} {σ:List Slot} {s₀ s:Shared} {h':Heap} {tk:Nat} {J:Heap→Prop},GIn (loopX Z A tg body fs own C g xs I (EnumAt y t I i)) σ s₀ s→Kept [I,I+1] s.heap h'→(∀ a∈[I,I+1],∃ o,h'.get? a=some o∧NotCode o)→J h'→GIn (loopX Z A tg body fs own C g xs I J) σ s₀ { s with heap:=h',toks:=tk }:=by
  intro i j σ s₀ s h' tk J G k c jj
  obtain ⟨ws,D⟩:=G.D
  have y₁:St Z.X (Z.X.VW (·∈[I,I+1])) g s { s with heap:=h',toks:=tk }:=kept_st D.K k fun b m=>⟨(G.mt b (hI b m).1).1,W.code _ _ G.jj b m⟩
  have mt:∀ a,own a→Mut Z.X.N h' a:=fun a w=>by
   by_cases m:a∈[I,I+1]
   ·exact ⟨(G.mt a w).1,c a m⟩
   ·exact ⟨(G.mt a w).1,(G.mt a w).2.imp fun o q=>⟨k a o m q.1,q.2⟩⟩
  have nx:St Z.X (Z.X.VW own) g s₀ { s with heap:=h',toks:=tk }:=G.nx.on y₁ (fun a o k e=>⟨k.1,fun m=>k.2 (hI a m).1⟩) (Nat.le_refl _)
  have kC:∀ o,s.heap.get? C=some o→h'.get? C=some o:=fun o=>k C o fun m=>nC C m rfl
  exact ⟨⟨ws,D.norm (s':={ s with heap:=h',toks:=tk }) G.sc (fun l m=>(OT.all l m).symm▸kC) (OT.loc.symm▸kC) (y₁.G D.g) (fun a n e=>in_B (x:=loopX Z A tg body fs own C g xs I J) nx mt n e) (fun a b=>.inl b.1.1) (fun a u b=>b.2 (u▸OT.mine)) (fun a u=>u▸mt _ OT.mine) OT.all⟩,G.sc,nx,mt,jj,G.gz⟩
 intro rem
 induction rem with
 | nil =>
  intro i σ σ' s₀ s ys pre rest hr hi G he hx hk
  obtain rfl:i=(enumL 0 (signs y)).length:=Nat.le_antisymm hi (List.drop_eq_nil_iff.mp hr)
  obtain ⟨rfl,rfl⟩:=Prod.mk.inj (Option.some.inj (show some (([]:List PV),σ)=some (ys,σ') from he))
  refine seg_forLoop (har▸?_)
  obtain ⟨⟨old,h1⟩,h2⟩:=id G.jj
  refine enum_str_end R h1 h2 (by rw [len]; exact Array.getElem?_size) fun h' b1 b2=>hk s₀ _ (step (j:=0) (tk:=s.toks) G (fun b o m e=>b1 b o (fun z=>m (z▸List.mem_cons_self)) e) (fun a m=>?_) trivial)
  rcases List.mem_cons.mp m with q | m
  ·obtain ⟨o,e,c⟩:=b2
   exact ⟨o,q▸e,.inl fun z=>by rcases strIter_cases y with w | w <;> rw [w] at c <;> exact absurd (Value.type.inj (c.symm.trans z)) (by decide)⟩
  ·have m:=List.mem_singleton.mp m
   exact ⟨_,by rw [m]; exact b1 _ _ (Nat.succ_ne_self I) h1,.inl fun z=>absurd (Value.type.inj (show Value.type "enumerate"=Value.type "code" from z)) (by decide)⟩
 | cons p rem ih =>
  intro i σ σ' s₀ s ys pre rest hr hi G he hx hk
  have hlt:i < (enumL 0 (signs y)).length:=by
   rcases Nat.lt_or_eq_of_le hi with q | q
   ·exact q
   ·rw [List.drop_eq_nil_of_le (Nat.le_of_eq q.symm)] at hr; exact nomatch hr
  rw [List.drop_eq_getElem_cons hlt] at hr
  obtain ⟨hp,hr2⟩:=List.cons.inj hr
  have hpi:(enumL 0 (signs y))[i]?=some p:=hp▸List.getElem?_eq_getElem hlt
  obtain ⟨σ₁,y1,σ2,y2,σ3,e1,hb,e2,e3,e4⟩:=gloop_cons he
  obtain ⟨rfl,rfl⟩:=Prod.mk.inj e4
  rw [List.append_assoc] at hx ⊢
  refine seg_forLoop (har▸?_)
  refine W.item i s _ _ (len▸hlt) G.jj fun v h' tk hv hm hk1=>?_
  refine W.go tg.e i v _ _ _ (fun _=>tg.ht tp) hm fun h2 st2 hk2=>?_
  have kk:Kept [I,I+1] s.heap h2:=fun b o m e=>hk2 b o m (hk1 b o m e)
  have G2:=step (j:=i+1) (tk:=tk) (J:=EnumAt y t I (i+1)) G kk (W.code (i+1) h2 st2) st2
  obtain ⟨rfl,vs,⟨u,w,rfl,pw⟩,gt⟩:=hv
  obtain ⟨q,eq,rfl⟩:=enumL_get _ 0 i p hpi
  obtain ⟨ws₂,D₂⟩:=G2.D
  obtain ⟨ws,D⟩:=G.D
  have nI:s.heap.objs.size ∉ [I,I+1]:=fun m=>none_at (get_size s.heap) ((G.mt _ (hI _ m).1).2.imp fun _ q=>q.1)
  have rv:((loopX Z A tg body fs own C g xs I (EnumAt y t I (i+1))).fr s₀).Rep h2 (.tup [.int ((0+i:Nat):Int),q]) (.ref s.heap.objs.size) :=
   Rep.mkTup (in_B (x:=loopX Z A tg body fs own C g xs I (EnumAt y t I (i+1))) G.nx G.mt (D.K.size _ D.g) (get_size _)) (hk2 _ _ nI gt) (RepL.cons ⟨u,by rw [Nat.zero_add]⟩ (RepL.cons (sign_rep eq pw) RepL.nil))
  refine tg.ok (Z:=(loopX Z A tg body fs own C g xs I (EnumAt y t I (i+1))).fr s₀) D₂ OT.EO (fun a m=>OT.to a.i a.x (List.all_eq_true.mp ts a m)) rv e1 fun ws₃ s₃ x₃ D₃=>?_
  have Oi:=O _ (jk (i+1))
  have G3:=G2.go Oi x₃ D₃ hb
  exact body.ok (x:=loopX Z A tg body fs own C g xs I (EnumAt y t I (i+1))) Oi rfl G3 e2 hx fun s₀' s' G'=>seg_again rfl (ih (i+1) hr2 hlt G' e3 (hx.trans (List.append_assoc _ _ _).symm) hk)
end
end Mine
end
section
open PySem PySem.W PyProof.Rows
open Sem (wp)
namespace Mine
structure GB (sc:SC) where
 pre:List (SZ sc)
 i:Nat
 x:Str
 p1:Pos
 p2:Pos
 p3:Pos
 pos:Pos
 tg:SP sc
 body:GL sc
 post:GL sc
 h:(isVar sc i x&&(isGlob sc "enumerate"&&(tg.tp&&tg.ts.all (Tg.ok sc))))=true
noncomputable def preS {sc:SC}:List (SZ sc)→List Stmt→List Stmt
 | [],r=>r
 | z::zs,r=>z.st::preS zs r
noncomputable def preF {sc:SC}:List (SZ sc)→List Slot→List Slot
 | [],σ=>σ
 | z::zs,σ=>preF zs (z.f σ)
def ownI (C I a:Addr):Prop:=a=C∨a∈[I,I+1]
section
variable {sc:SC}
noncomputable def GB.sts (b:GB sc):List Stmt:=preS b.pre (.For b.tg.e (.Call (.Name "enumerate" b.p1) [.Name b.x b.p2] [] b.p3) b.body.sts [] b.pos::b.post.sts)
noncomputable def GB.ev (b:GB sc) (Φ:Fns) (σ:List Slot):Option (List PV):=bif bareL σ then (slotV (preF b.pre σ) b.i).bind fun p=>p.str?.bind fun y=>(gloop b.tg.bind (b.body.ev Φ) (enumL 0 (signs y)) (preF b.pre σ)).bind fun r=>(b.post.ev Φ r.2).map fun q=>r.1++q.1 else none
theorem pre_bare:∀ (pre:List (SZ sc)) {σ:List Slot},bareL σ=true→bareL (preF pre σ)=true
 | [],_,h=>h
 | z::zs,_,h=>pre_bare zs (z.b h)
theorem seg_pre {A:Around} {R:GenEnd} {Y:Protocol} {n:Nat} {s₀:Shared} {c:Code} {fs:List Frame} {K:Flow→Sem Fin} {H:Value→Sem Fin} {gd:Bool→Bool} {lv:List Value→List Value} {Z:Fr} (har:Z.Ar=A.over c fs) {rest:List Stmt}:∀ (pre:List (SZ sc)) {σ:List Slot} {ws:Nat→Option Value} {s:Shared},Ex Z sc σ ws s →
  (∀ ws' s',Stp Z.X Z.K s s'→Ex Z sc (preF pre σ) ws' s'→s'.heap.objs.size=s.heap.objs.size→Seg Z.X.M A R Y n s₀ c ((execs rest Z.env).wrap K H gd lv) fs s')→Seg Z.X.M A R Y n s₀ c ((execs (preS pre rest) Z.env).wrap K H gd lv) fs s
 | [],σ,ws,s,V,h=>h ws s .refl V rfl
 | z::zs,σ,ws,s,V,h=>seg_execs_cons (seg_plain (har▸z.ok V fun ws₁ s₁ x₁ D₁ e₁=>seg_pre har zs (V.val D₁) fun ws₂ s₂ x₂ V₂ e₂=>h ws₂ s₂ (x₁.trans x₂) V₂ (e₂.trans e₁)))
noncomputable abbrev Fr.gen (Z:Fr) (Ar:Around) (B:Addr→Prop) (C:Addr):Fr:={ Z with Ar:=Ar,B:=B,U:=fun a=>a=C }
theorem room_f {u d:Nat} (h:u+8 * (d+2)+200≤9900):u+0+3+8 * d+200≤9900:=by omega
theorem room_l {u d:Nat} (h:u+8 * (d+2)+200≤9900):u+(3+0)+0+8 * d+200≤9900:=by omega
theorem room_g {u d:Nat} (h:u+(d+2)≤1000):u+0+1+d≤1000∧u+1+0+d≤1000:=by omega
theorem GB.seg (b:GB sc) {Z:Fr} {A:Around} {C I:Addr} {g:Nat} {σ:List Slot} {ws:Nat→Option Value} {s:Shared} {xs:List PV} (V:Ex (Z.gen (A.over (.func b.sts Z.env) []) (fun a=>Z.X.N≤a∧s.heap.get? a=none) C) sc σ ws s) (all:∀ l∈Z.ls,l.addr=C) (loc:Z.env.locals=C)
  (hco:Z.env.scope.isCoroutine=false) (P:∀ Ar,Room Ar Z.d→Pf Z.X Z.Φ Ar Z.d) (R:Room A (Z.d+2)) (hI:s.heap.objs.size=I) (hg:g≤s.gens.size) (e:b.ev Z.Φ σ=some xs) :
  Seg Z.X.M A (genR Z.X (ownI C I) g) (genY Z.X (ownI C I) g xs) xs.length s (.func b.sts Z.env) (Z.X.M.den (.func b.sts Z.env)) [] s:=by
 obtain ⟨hv,h⟩:=both b.h
 obtain ⟨hgl,h⟩:=both h
 obtain ⟨tp,ts⟩:=both h
 have hin:interactive Z.env=false:=by unfold interactive; rw [show Z.env.scope.kind=.function from V.EO.kind]; rfl
 unfold GB.ev at e
 cases hb:bareL σ with
 | false=>rw [hb] at e; exact no e
 | true =>
  rw [hb] at e
  refine onBind e fun p e1 e=>onBind e fun y e2 e=>onBind e fun r e3 e=>onMap e fun q e4 e5=>?_
  clear e
  subst e5
  obtain ⟨ys,σ'⟩:=r
  refine seg_func (seg_pre (Z:=Z.gen (A.over (.func b.sts Z.env) []) (fun a=>Z.X.N≤a∧s.heap.get? a=none) C) rfl b.pre V fun ws₁ s₁ x₁ V₁ z₁=>?_)
  refine seg_execs_cons (seg_For (fun _=>rfl) ?_)
  have R1:Room (A.over (.func b.sts Z.env) []) Z.d:=⟨R.hh,(room_g R.hd).1,room_f R.hu⟩
  obtain ⟨v,hw,rv⟩:=V₁.ok b.i _ (slotV_is e1)
  obtain ⟨t,rfl⟩:=scS.rd rv e2
  refine wpAny_Call_NameR (blt_name V₁.toEv hgl (by decide +kernel) (v:=.type "enumerate") (by decide +kernel) (PySem.callWith_type (no_stars [SE.var b.i b.x b.p2 hv]) (args_call (as:=[SE.var b.i b.x b.p2 hv]) (wpAny_items_cons (ldv V₁.toEv hv hw (wpAny_items_nil ?_)) rfl))))
  refine call_enumerate_str fun h' b1 b2 b3 b4=>wpAny_pyIter_enum b1 ?_
  rw [z₁,hI] at b1 b2 ⊢
  have hN:Z.X.N≤I:=hI▸z₁▸V₁.K.size _ V₁.g
  have EA:EnumAt y t I 0 h':=⟨⟨_,b1⟩,b2⟩
  obtain ⟨M,W⟩:=wk_str (Z:=Z.gen A.in1 (fun _=>False) C) R.hh y t I
  have x₂:∀ {K:Addr→Prop} {g:Nat},St Z.X K g s₁ { s₁ with heap:=h' }:=V₁.toBs.ext b4 (tk:=s₁.toks)
  have mt:∀ a,ownI C I a→Mut Z.X.N h' a:=fun a w=>w.elim (fun w=>by
   obtain ⟨n,o,e,c⟩:=V₁.turn a w
   exact ⟨n,o,b4 a o e,c⟩) fun m=>⟨(List.mem_cons.mp m).elim (fun q=>q▸hN) fun q=>List.mem_singleton.mp q▸Nat.le_succ_of_le hN,W.code 0 h' EA a m⟩
  have nx:St Z.X (Z.X.VW (ownI C I)) g s { s₁ with heap:=h' }:=(St.weak x₁ (fun a _ k _=>⟨k.1,fun q=>k.2 (.inl q)⟩) hg:St Z.X (Z.X.VW (ownI C I)) g s s₁).trans x₂
  have hC:∀ a,a∈[I,I+1]→ownI C I a∧a≠C:=fun a m=>⟨.inr m,fun q=>by
   obtain ⟨n,o,e,c⟩:=V₁.turn C rfl
   rw [← q] at e
   refine none_at (get_ge ?_) ⟨o,e⟩
   rw [z₁,hI]
   exact (List.mem_cons.mp m).elim (fun q=>Nat.le_of_eq q.symm) fun q=>Nat.le_of_lt (List.mem_singleton.mp q▸Nat.lt_succ_self I)⟩
  have R1:Room (A.over (.func b.sts Z.env) []) Z.d:=⟨R.hh,(room_g R.hd).1,room_f R.hu⟩
  have hin':=hin
  have OP:GxOk ⟨Z.gen (A.over (.func b.sts Z.env) []) (fun _=>False) C,A,.func b.sts Z.env,[],ownI C I,fun _=>True,C,g,ys++q.1⟩ sc:=⟨P _ R1,V.EO,V.nm,V.al,V.to,rfl,all,loc,.inl rfl,fun _ _ _ _=>trivial,rfl,rfl,hco,hin⟩
  have loop:∀ fs,splitAtGen fs=none→fs.any Frame.guarded=false→Room (A.over (.forLoop b.tg.e (.ref (I+1)) b.body.sts [] Z.env) fs) Z.d →
    (∀ s₀' s',GIn (loopX (Z.gen (A.over (.forLoop b.tg.e (.ref (I+1)) b.body.sts [] Z.env) fs) (fun _=>False) C) A b.tg b.body fs (ownI C I) C g (ys++q.1) I fun _=>True) σ' s₀' s'→Seg Z.X.M A (genR Z.X (ownI C I) g) (genY Z.X (ownI C I) g (ys++q.1)) q.1.length s₀' (.forLoop b.tg.e (.ref (I+1)) b.body.sts [] Z.env) (.pure (.again (.block [] Z.env))) fs s') →
    Seg Z.X.M A (genR Z.X (ownI C I) g) (genY Z.X (ownI C I) g (ys++q.1)) (ys++q.1).length s (.forLoop b.tg.e (.ref (I+1)) b.body.sts [] Z.env) (Z.X.M.den (.forLoop b.tg.e (.ref (I+1)) b.body.sts [] Z.env)) fs { s₁ with heap:=h' }:=by
   intro fs f1 f2 Rl hk
   refine seg_loop (Z:=Z.gen (A.over (.forLoop b.tg.e (.ref (I+1)) b.body.sts [] Z.env) fs) (fun _=>False) C) hC hN tp ts (fun J hJ=>⟨P _ Rl,V.EO,V.nm,V.al,V.to,rfl,all,loc,.inl rfl,hJ,f1,f2,hco,hin⟩) Rl.hh _ 0 (y:=y) (t:=t) (pre:=[]) List.drop_zero (Nat.zero_le _)
    ⟨⟨ws₁,Dy.norm (Z:=Z.gen (A.over (.forLoop b.tg.e (.ref (I+1)) b.body.sts [] Z.env) fs) (fun a=>Z.X.N≤a∧s.heap.get? a=none) C) { V₁.toDy with R:=Rl } (pre_bare b.pre hb) (fun l _ o e=>b4 _ o e) (fun o e=>b4 _ o e) (x₂.G (K:=fun _=>True) (g:=0) V₁.g) (fun a n e=>in_B (x:=loopX Z A b.tg b.body fs (ownI C I) C g (ys++q.1) I (EnumAt y t I 0)) nx mt n e) (fun a b=>.inl b.1.1) (fun a u b=>b.2 (.inl u)) (fun a u=>mt a (.inl u)) all⟩,pre_bare b.pre hb,nx,mt,EA,Nat.le_trans hg x₁.size⟩
    e3 rfl hk
  intro pp
  refine loop _ ?_ ?_ ?_ fun s₀' s' G'=>?_
  ·rfl
  ·rfl
  ·exact ⟨R.hh,(room_g R.hd).2,room_l R.hu⟩
  refine seg_again rfl ?_
  show Seg _ _ _ _ _ _ _ (leafOf (.ok .next)) _ _
  refine seg_leaf (.ok .next) ?_
  have hlen:q.1.length=(q.1++([]:List PV)).length:=by rw [List.append_nil]
  rw [hlen]
  obtain ⟨zs,σ''⟩:=q
  refine b.post.ok (x:=⟨Z.gen (A.over (.func b.sts Z.env) []) (fun _=>False) C,A,.func b.sts Z.env,[],ownI C I,fun _=>True,C,g,ys++zs⟩) (pre:=ys) OP rfl ⟨G'.D.imp fun ws D=>{ D with R:=R1 },G'.sc,G'.nx,G'.mt,trivial,G'.gz⟩ e4 (by rw [List.append_nil]) fun s₁' s'' G''=>?_
  exact seg_end (.ok (.ret .none)) ⟨rfl,rfl,G''.nx⟩
end
end Mine
end
section
open PySem PySem.W PyProof.Rows
open Sem (wp)
namespace Mine
theorem bare_setGen {s:Shared} {g:Nat} {x:GenState} (h:AllBare s.gens) (hx:x.bare=true):AllBare (s.setGen g x).gens:=by
 intro y hy
 have hy:y∈s.gens.setIfInBounds g x:=hy
 obtain ⟨i,hi,rfl⟩:=Array.mem_iff_getElem.mp hy
 have hi':i < s.gens.size:=by rw [Array.size_setIfInBounds] at hi; exact hi
 rw [Array.getElem_setIfInBounds hi']
 split
 ·exact hx
 ·exact h _ (Array.getElem_mem _)
theorem setGen_other {s:Shared} {g i:Nat} {x z:GenState} (h:i≠g) (e:s.gens[i]?=some z):(s.setGen g x).gens[i]?=some z:=by
 show (s.gens.setIfInBounds g x)[i]?=some z
 rw [Array.getElem?_setIfInBounds_ne (Ne.symm h)]; exact e
theorem setGen_size {s:Shared} {g:Nat} {x:GenState}:(s.setGen g x).gens.size=s.gens.size:=Array.size_setIfInBounds
theorem St.woken {X:Cx} {K:Addr→Prop} {g g₀:Nat} {s s₁:Shared} {gs':GenState} {h':Heap} (x:St X K (g+1) (s.setGen g .running) s₁) (hg:g₀≤g) (hb:gs'.bare=true) (G:X.G s₁.heap→X.G h') (hk:Ext s₁.heap h'):St X K g₀ s { s₁.setGen g gs' with heap:=h' } :=
 have lt:∀ i,i < g₀→i < g:=fun i h=>Nat.lt_of_lt_of_le h hg
 ⟨fun a o n e=>hk a o (x.off a o n e),fun q=>G (x.G q),fun i z hi e=>setGen_other (Nat.ne_of_lt (lt i hi)) (x.gens i z (Nat.lt_succ_of_lt (lt i hi)) (setGen_other (Nat.ne_of_lt (lt i hi)) e)),fun q=>bare_setGen (x.bare (bare_setGen q rfl)) hb,x.os⟩
theorem isGen_at {h h':Heap} {G g:Nat} (q:h.IsGen G g) (k:∀ o,h.get? G=some o→h'.get? G=some o):h'.IsGen G g :=
 let ⟨o,nm,qn,ho,r⟩:=q; ⟨o,nm,qn,k o ho,r⟩
theorem isGen_mut {h:Heap} {G g N:Nat} (hN:N≤G) (q:h.IsGen G g):Mut N h G :=
 let ⟨o,nm,qn,ho,hc,_⟩:=q; ⟨hN,o,ho,.inl (by rw [hc]; exact fun z=>absurd (Value.type.inj z) (by decide))⟩
section
variable {X:Cx}
def GenSt (X:Cx) (A:Around) (C G g:Nat) (xs:List PV) (c:Code) (h₀:Heap) (W:Addr→Prop) (i:Nat) (s:Shared):Prop :=
 s.heap.IsGen G g∧(∀ a,W a→Mut X.N s.heap a)∧W C∧W G ∧
  ((i=0∧W=(fun a=>a=C∨a=G)∧s.gens[g]?=some (.fresh c)∧(∀ o,h₀.get? C=some o→s.heap.get? C=some o)) ∨
  (∃ I gs,W=(fun a=>ownI C I a∨a=G)∧¬ ownI C I G∧s.gens[g]?=some gs∧∀ s'':Shared,X.G s''.heap→(∀ a o,ownI C I a→s.heap.get? a=some o→s''.heap.get? a=some o)→g+1≤s''.gens.size →
    gs.Goes X.M A (genR X (ownI C I) (g+1)) (genY X (ownI C I) (g+1) xs) (xs.length - i) (.send .none) (s''.setGen g .running)))
def Wakes (X:Cx) (A:Around) (C g:Nat) (xs:List PV) (c:Code) (h₀:Heap):Prop:=∀ (I:Addr) (s'':Shared),I=s''.heap.objs.size→X.G s''.heap→(∀ o,h₀.get? C=some o→s''.heap.get? C=some o)→g+1≤s''.gens.size →
 (GenState.fresh c).Goes X.M A (genR X (ownI C I) (g+1)) (genY X (ownI C I) (g+1) xs) xs.length (.send .none) (s''.setGen g .running)
theorem gen_lt {s:Shared} {g:Nat} {x:GenState} (e:s.gens[g]?=some x):g+1≤s.gens.size:=(Array.getElem?_eq_some_iff.mp e).1
theorem GenSt.wake {A:Around} {C G g:Nat} {xs:List PV} {c:Code} {h₀:Heap} {W:Addr→Prop} {i:Nat} {s:Shared} (st:GenSt X A C G g xs c h₀ W i s) (gg:X.G s.heap) (hCG:C≠G) (hf:Wakes X A C g xs c h₀) :
  ∃ I gs,s.gens[g]?=some gs∧¬ ownI C I G∧(∀ a,W a→ownI C I a∨a=G)∧(∀ a,ownI C I a→W a∨s.heap.get? a=none)∧gs.Goes X.M A (genR X (ownI C I) (g+1)) (genY X (ownI C I) (g+1) xs) (xs.length - i) (.send .none) (s.setGen g .running):=by
 obtain ⟨h1,h2,hWC,hWG,h3 | h3⟩:=st
 ·obtain ⟨rfl,rfl,e3,e4⟩:=h3
  refine ⟨s.heap.objs.size,_,e3,fun q=>q.elim (fun q=>hCG q.symm) fun q=>?_,fun a q=>q.imp (fun q=>.inl q) id,fun a q=>q.imp (fun q=>.inl q) fun q=>get_ge ?_,hf _ s rfl gg e4 (gen_lt e3)⟩
  ·obtain ⟨o,_,_,e,_⟩:=h1
   exact none_at (get_ge ((List.mem_cons.mp q).elim (fun q=>Nat.le_of_eq q.symm) fun q=>Nat.le_of_lt (List.mem_singleton.mp q▸Nat.lt_succ_self _))) ⟨o,e⟩
  ·exact (List.mem_cons.mp q).elim (fun q=>Nat.le_of_eq q.symm) fun q=>Nat.le_of_lt (List.mem_singleton.mp q▸Nat.lt_succ_self _)
 ·obtain ⟨I,gs,rfl,e0,e3,e4⟩:=h3
  exact ⟨I,gs,e3,e0,fun a q=>q,fun a q=>.inl (.inl q),e4 s gg (fun _ _ _ e=>e) (gen_lt e3)⟩
theorem GenSt.keep {A:Around} {C G g:Nat} {xs:List PV} {c:Code} {h₀:Heap} {W K:Addr→Prop} {i:Nat} {s s':Shared} (st:GenSt X A C G g xs c h₀ W i s) (x:Stp X K s s') (hu:∀ a,W a→K a):GenSt X A C G g xs c h₀ W i s':=by
 obtain ⟨h1,h2,hWC,hWG,h3⟩:=st
 have kW:∀ a o,W a→s.heap.get? a=some o→s'.heap.get? a=some o:=fun a o q e=>x.off a o (hu a q) e
 refine ⟨isGen_at h1 fun o e=>kW _ o hWG e,fun a q=>⟨(h2 a q).1,(h2 a q).2.imp fun o z=>⟨kW a o q z.1,z.2⟩⟩,hWC,hWG,?_⟩
 rcases h3 with ⟨e1,e2,e3,e4⟩ | ⟨I,gs,e1,e0,e2,e3⟩
 ·exact .inl ⟨e1,e2,x.gens _ _ (gen_lt e3) e3,fun o e=>kW _ o hWC (e4 o e)⟩
 ·subst e1
  exact .inr ⟨I,gs,rfl,e0,x.gens _ _ (gen_lt e2) e2,fun s'' g'' k l=>e3 s'' g'' (fun a o q e=>k a o q (kW a o (.inl q) e)) l⟩
theorem sub_sub_one {n i:Nat} (h:i < n):n - 1 - (n - i - 1)=i∧n - i=n - (i+1)+1:=by omega
end
section
variable {Z:Fr} {K:Addr→Prop} {tp:Bool} {d C G g:Nat} {xs:List PV} {c:Code} {s s₁:Shared}
theorem gen_iter (V:Bs Z s) (R:Room Z.Ar (d+1)) (hC:Z.X.N≤C) (hG:Z.X.N≤G) (hCG:C≠G) (hCn:s.heap.get? C=none) (hGn:s.heap.get? G=none) (hg:s.gens.size≤g) (h1:s₁.heap.IsGen G g) (h2:Mut Z.X.N s₁.heap C) (h3:s₁.gens[g]?=some (.fresh c)) (hf:Wakes Z.X Z.Ar.in1 C g xs c s₁.heap) :
  Iter Z K tp (.ref G) xs (fun a=>a=C∨a=G) (GenSt Z.X Z.Ar.in1 C G g xs c s₁.heap) s s₁:=by
 refine ⟨fun a q=>q.elim (fun q=>q▸hCn) fun q=>q▸hGn,fun W i s st=>st.2.1,⟨h1,fun a q=>q.elim (fun q=>q▸h2) fun q=>q▸isGen_mut hG h1,.inl rfl,.inr rfl,.inl ⟨rfl,rfl,h3,fun _ e=>e⟩⟩,
  fun W i s s' K' st x hu _=>st.keep x hu,fun W i p target hi htp B s' Q E hB hB2 st gg hQ=>?_,fun W s' Q E st gg hQ=>?_,fun W s' Q E st q=>wpAny_pyIter_gen st.1 q⟩
 ·obtain ⟨I,gs,e1,hnG,e2,e3,e4⟩:=st.wake gg hCG hf
  have hlt:i < xs.length:=(List.getElem?_eq_some_iff.mp hi).1
  refine next_gen (P:=fun n s₀ s₁=>n=0∧St Z.X (Z.X.VW (ownI C I)) (g+1) s₀ s₁) R.hh (V.K.nolimit _ gg) R.depth st.1 e1 e4 (fun v s₂ gs' hb hv=>?_) fun s₂ hp=>absurd hp.1 (Nat.ne_of_gt (Nat.sub_pos_of_lt hlt))
  obtain ⟨p',q1,q2,q3,q4,q5,q6⟩:=hv
  rw [(sub_sub_one hlt).1,hi] at q1
  obtain rfl:=Option.some.inj q1
  have gk:∀ o,s'.heap.get? G=some o→s₂.heap.get? G=some o:=fun o e=>q3.off G o ⟨.inl hG,hnG⟩ e
  have g₂:s₂.heap.IsGen G g:=isGen_at st.1 gk
  have hnx:St Z.X (Z.X.VW (ownI C I)) s.gens.size s' { s₂.setGen g gs' with heap:=s₂.heap }:=q3.woken hg hb id fun _ _ e=>e
  have hrun:s₂.gens[g]?=some .running:=q3.gens g _ (Nat.lt_succ_self _) (setGen_self e1)
  have mW:∀ a,ownI C I a∨a=G→Mut Z.X.N s₂.heap a:=fun a q=>q.elim (q4 a) fun q=>q▸isGen_mut hG g₂
  refine hQ (fun a=>ownI C I a∨a=G) v _ e2 (fun a q=>q.elim (e3 a) fun q=>.inl (q▸st.2.2.2.1)) mW
   (hnx.weak (fun a o k e=>⟨k.1,fun z=>(e3 a z).elim k.2 fun z=>none_at z ⟨o,e⟩⟩) (Nat.le_refl _)) (Mine.Rep.move q2 fun a o b e=>⟨⟨hB2 a b.1.1 b.1.2,fun w=>w.elim b.2 fun q=>none_at (q▸b.1.2) ((st.2.1 G st.2.2.2.1).2.imp fun _ q=>q.1)⟩,e⟩) fun Q' E' hq=>?_
  obtain ⟨o,_,_,ho,hc,_⟩:=id g₂
  refine go_plain (s:={ s₂.setGen g gs' with heap:=s₂.heap }) (T:="generator") ho hc (by decide) (hq _ .refl ⟨g₂,mW,.inl (.inl rfl),.inr rfl,.inr ⟨I,gs',rfl,hnG,setGen_self hrun,fun s'' g'' k l=>?_⟩⟩)
  have:=q6 (s''.setGen g .running) g'' k (by rw [setGen_size]; exact l)
  rw [(sub_sub_one hlt).2] at this
  exact this
 ·obtain ⟨I,gs,e1,hnG,e2,e3,e4⟩:=st.wake gg hCG hf
  rw [Nat.sub_self] at e4
  refine next_gen (P:=fun n s₀ s₁=>n=0∧St Z.X (Z.X.VW (ownI C I)) (g+1) s₀ s₁) R.hh (V.K.nolimit _ gg) R.depth st.1 e1 e4 (fun v s₂ gs' hb hv=>?_) fun s₂ hp h' hk=>?_
  ·obtain ⟨p',q1,q2,q3,q4,q5,q6⟩:=hv
   have lt:g+1≤s₂.gens.size:=q3.gz (by rw [setGen_size]; exact gen_lt e1)
   exact (q6 s₂ q5 (fun _ _ _ e=>e) lt).elim
  ·have hnx:St Z.X (Z.X.VW (ownI C I)) s.gens.size s' { s₂.setGen g .finished with heap:=h' }:=hp.2.woken hg rfl (fun q=>V.K.Gk _ _ (fun _=>False) q (fun _ f=>f.elim) fun a o _ e=>hk a o e) hk
   exact hQ _ (hnx.weak (fun a o k e=>⟨k.1,fun z=>(e3 a z).elim k.2 fun z=>none_at z ⟨o,e⟩⟩) (Nat.le_refl _))
end
end Mine
end
section
open PySem PySem.W PyProof.Rows
open Sem (wp)
namespace Mine
structure GenOk (fd:FuncData) (D:Sig) (stmts:List Stmt):Prop where
 names:fd.scope.names=D.names
 kind:fd.scope.kind=.function
 co:fd.scope.isCoroutine=false
 gen:fd.scope.isGenerator=true
 body:fd.body=.stmts stmts
 clo:fd.closure=[]
 glob:fd.globals=mainGlobals
 blt:fd.builtins=builtinsNs
 nodup:(D.params++D.locals).Nodup
 loc:∀ x∈D.params++D.locals,D.names.lookup x=some .local
 bind:∀ vs:List Value,vs.length=D.params.length→bindArgs fd ⟨vs,[]⟩=pure (D.params.zip vs)
 own:D.own=none
theorem bare_push {gens:Array GenState} {x:GenState} (h:AllBare gens) (hx:x.bare=true):AllBare (gens.push x):=fun y hy=>(Array.mem_push.mp hy).elim (h y) fun q=>q▸hx
section
variable {nm:Nms} {Z:Fr} {s:Shared} {ps xs:List PV} {vs:List Value} {a:Addr} {fd:FuncData} {D:Sig} {d:Nat}
noncomputable def genEv (D:Sig) (b:GB (D.sc nm)) (Φ:Fns) (ps:List PV):Option (List PV):=bif Nat.beq ps.length D.params.length then b.ev Φ (D.slots ps) else none
theorem gen_ok {b:GB (D.sc nm)} (V:Bs Z s) (A:FnAt Z.X a fd) (GO:GenOk fd D b.sts) (hd:Z.d=d+3) (hnm:Z.X.nm=nm) (P:∀ Ar,Room Ar d→Pf Z.X Z.Φ Ar d) (rl:Z.RepL s.heap ps vs) (e:genEv D b Z.Φ ps=some xs) (K:Addr→Prop) (tp:Bool):GetsIt Z K s tp xs (call (.ref a) vs):=by
 intro Q E h
 unfold genEv at e
 cases hl:Nat.beq ps.length D.params.length with
 | false=>rw [hl] at e; exact no e
 | true =>
  rw [hl] at e
  have hlen:=Nat.eq_of_beq_eq_true hl
  obtain ⟨o,ho,hod⟩:=A.obj _ V.g
  have R:Room Z.Ar (d+3):=hd▸V.R
  refine wpAny_call (codeAny_call_generator R.depth ho hod GO.co GO.gen GO.body (A.code _ V.g) ?_)
  rw [GO.bind vs (by rw [rl.len]; exact hlen),GO.clo]
  refine wpAny_pure (new_def_env ?_)
  have fo:=frame_ok s.heap fd.scope.names (.type "frame") (D.params++D.locals)
  rw [GO.names] at fo ⊢
  revert fo
  generalize pushCells (s.heap.push { cls:=.type "frame",data:=.dict #[] }) D.names=H
  generalize cellsFrom (s.heap.objs.size+1) D.names []=cs
  have new:∀ a,s.heap.objs.size≤a→s.heap.get? a=none∧Z.X.N≤a:=fun a l=>⟨get_ge l,Nat.le_trans (V.K.size _ V.g) l⟩
  revert new
  generalize s.heap.objs.size=C
  intro new ⟨N,hi,F,_,Kx⟩
  have hi:∀ a,OfFrame C cs a→s.heap.get? a=none∧Z.X.N≤a:=fun a u=>new a (hi a u)
  generalize he:newEnv fd.scope C fd.globals cs (fd.qualname++".<locals>.") (some a) fd.code none fd.builtins=env
  have hC:env.locals=C:=by rw [← he]; rfl
  have hloc:∀ x∈D.params++D.locals,locOf D.names cs C x=Loc.loc C x:=fun x hx=>by
   unfold locOf
   rw [GO.loc x hx]; rfl
  have EO:EnvOk env (D.sc nm) ((D.params++D.locals).map (locOf D.names cs C)):=by
   refine ⟨by rw [← he]; exact GO.kind,by rw [← he]; exact GO.names,by rw [← he]; exact GO.glob,by rw [← he]; exact GO.blt,List.length_map _,fun i x l e1 e2 e3=>?_,fun i x l e1 e2 e3=>?_,fun c q e=>no (GO.own.symm.trans e)⟩
   ·rw [List.getElem?_map,show (D.params++D.locals)[i]?=some x from e1] at e2
    rw [← Option.some.inj e2,hC]
    exact hloc x (List.mem_of_getElem? e1)
   ·rw [show D.names.lookup x=some .local from GO.loc x (List.mem_of_getElem? e1)] at e3
    exact e3.elim (fun q=>nomatch q) fun q=>nomatch q
  have x₁:Stp Z.X Z.X.V s { s with heap:=H }:=V.ext (tk:=s.toks) Kx
  have R1:Room Z.Ar.in1 (d+2):=R.in1
  obtain ⟨ws,D₁⟩:=frame_first (env:=env) (Ar:=Z.Ar.in1) (d:=d) V (R1.less (Nat.le_add_right _ _)) x₁ N hi F hC GO.nodup
  have rl₁:(Z.first Z.Ar.in1 d env D.names cs C (D.params++D.locals)).RepL H ps vs:=Mine.RepL.move (fun b o q e=>⟨⟨q,fun u=>none_at (hi b u).1 ⟨o,e⟩⟩,Kx b o e⟩) rl
  have isTo':∀ (j:Nat) (x:Str),(D.params++D.locals)[j]?=some x→isTo (D.sc nm) j x=true:=fun j x hx=>by
   show ((D.params++D.locals)[j]?==some x&&(D.names.lookup x==some .local || _))=true
   rw [hx,beq_self_eq_true,GO.loc x (List.mem_of_getElem? hx)]; rfl
  refine bind_params (Z:=Z.first Z.Ar.in1 d env D.names cs C (D.params++D.locals)) EO D.params vs ps 0 _ ws _ _ D₁ hlen.symm rl₁ (fun j x e=>?_) fun ws₂ s₂ x₂ D₂=>?_
  ·have hx:(D.params++D.locals)[j]?=some x:=by
    rw [List.getElem?_append_left (List.getElem?_eq_some_iff.mp e).1]; exact e
   exact ⟨by rw [Nat.zero_add]; exact isTo' j x hx,by rw [Nat.zero_add]; exact (List.getElem?_eq_some_iff.mp hx).1⟩
  ·have y₂:Stp Z.X Z.X.V s s₂:=x₁.on x₂ (fun b o k e=>⟨k,fun u=>none_at (hi b u).1 ⟨o,e⟩⟩) (Nat.le_refl _)
   have es:=setFrom_is ps [] D.locals.length
   rw [List.nil_append,List.nil_append] at es
   rw [show (D.params++D.locals).length=ps.length+D.locals.length by rw [List.length_append,hlen]] at D₂
   rw [show ([]:List Slot).length=0 from rfl] at es
   rw [es] at D₂
   refine ⟨V.K.nolimit _ D₂.g,?_⟩
   refine wpAny_pyIter_gen (g:=s₂.gens.size) ⟨_,_,_,Heap.get?_push_size _ rfl,rfl,rfl,rfl⟩ ?_
   have hk:Ext s₂.heap (s₂.heap.push { cls:=.type "generator",data:=.fields #[Value.int (↑s₂.gens.size) 0,Value.str fd.name s₂.toks,Value.str fd.qualname (s₂.toks+1)] }):=Ext.push _ _
   have y₃:Stp Z.X Z.X.V s { s₂ with gens:=s₂.gens.push (.fresh (.func b.sts env)),toks:=s₂.toks+1+1,heap:=s₂.heap.push { cls:=.type "generator",data:=.fields #[Value.int (↑s₂.gens.size) 0,Value.str fd.name s₂.toks,Value.str fd.qualname (s₂.toks+1)] } } :=
    y₂.on (g':=s₂.gens.size) ⟨fun a o _ e=>hk a o e,fun g=>V.K.Gk _ _ (fun _=>False) g (fun _ f=>f.elim) fun a o _ e=>hk a o e,fun i z l e=>by
     show (s₂.gens.push _)[i]?=some z
     rw [Array.getElem?_push_lt l,← Array.getElem?_eq_getElem]; exact e,fun hb=>bare_push hb rfl,rfl⟩ (fun _ _ k _=>k) y₂.size
   have mC:∃ o,s₂.heap.get? C=some o∧NotCode o:=by
    obtain ⟨n,m,hm⟩:=D₂.nsl
    obtain ⟨o,e,c,_⟩:=ns_code hm
    exact ⟨o,(show (Z.first Z.Ar.in1 d env D.names cs C (D.params++D.locals)).env.locals=C from hC)▸e,c⟩
   have hN:=(hi C (.inl rfl)).2
   have hsz:C < s₂.heap.objs.size:=mC.elim fun o q=>Heap.lt_size q.1
   have all:∀ l∈(D.params++D.locals).map (locOf D.names cs C),l.addr=C:=fun l m=>by
    obtain ⟨x,hx,rfl⟩:=List.mem_map.mp m
    rw [hloc x hx]; rfl
   refine h (.ref s₂.heap.objs.size) _ _ _ y₃ (gen_iter (c:=.func b.sts env) (C:=C) (d:=d+2) V R hN (Nat.le_trans hN (Nat.le_of_lt hsz)) (Nat.ne_of_lt hsz) (hi C (.inl rfl)).1 (y₂.live (.inl (Nat.le_trans hN (Nat.le_of_lt hsz))) (get_size _)) y₂.size ⟨_,_,_,Heap.get?_push_size _ rfl,rfl,rfl,rfl⟩ ⟨hN,mC.imp fun o q=>⟨hk _ _ q.1,q.2⟩⟩ (by simp) fun I s'' hI g'' k1 lg=>⟨rfl,?_⟩)
   have kC:∀ o,s₂.heap.get? C=some o→s''.heap.get? C=some o:=fun o e=>k1 o (hk _ _ e)
   have mC':Mut Z.X.N s''.heap C:=⟨hN,mC.imp fun o q=>⟨kC o q.1,q.2⟩⟩
   have Rf:Room (Z.Ar.in1.over (.func b.sts env) []) d:=⟨R1.hh,(room_g R1.hd).1,room_f R1.hu⟩
   unfold GB.ev at e
   cases hb:bareL (D.slots ps) with
   | false=>rw [hb] at e; exact no e
   | true =>
    have e':b.ev Z.Φ (D.slots ps)=some xs:=by unfold GB.ev; exact e
    refine b.seg (Z:=Z.first Z.Ar.in1 d env D.names cs C (D.params++D.locals)) (σ:=D.slots ps) (ws:=ws₂) (s:=s''.setGen s₂.gens.size .running) ⟨⟨⟨?_,P _ Rf,EO,hnm⟩,Nat.le_of_eq (List.length_map _)⟩,fun i x h=>(List.getElem?_eq_some_iff.mp (eq_of_beq (both h).1:(D.params++D.locals)[i]?=some x)).1⟩ all hC (by rw [show (Z.first Z.Ar.in1 d env D.names cs C (D.params++D.locals)).env=env from rfl,← he]; exact GO.co) P R1 hI.symm (by rw [setGen_size]; exact lg) e'
    exact Dy.norm (Z:=Z.first (Z.Ar.in1.over (.func b.sts env) []) d env D.names cs C (D.params++D.locals)) { D₂ with R:=Rf } hb (fun l m o e=>by rw [all l m] at e ⊢; exact kC o e) (fun o e=>by rw [show (Z.first (Z.Ar.in1.over (.func b.sts env) []) d env D.names cs C (D.params++D.locals)).env.locals=C from hC] at e ⊢; exact kC o e) g'' (fun a n e=>⟨n,e⟩) (fun a b=>.inl b.1) (fun a u b=>none_at b.2 (u▸mC'.2.imp fun _ q=>q.1)) (fun a u=>u▸mC') all
end
end Mine
end
section
open PySem PySem.W PyProof.Rows
namespace Mine
section
variable {sc:SC}
theorem Iter.of {Z:Fr} {K:Addr→Prop} {tp:Bool} {it:Value} {xs:List PV} {W:Addr→Prop} {S:(Addr→Prop)→Nat→Shared→Prop} {s s₁:Shared} (I:Iter (Fr.of Z.X Z.Φ Z.Ar Z.d Z.B) K tp it xs W S s s₁):Iter Z K tp it xs W S s s₁:=⟨I.new,I.mutd,I.start,I.keep,I.item,I.done,I.self⟩
noncomputable def SI.gen (f:Nat) (x:Str) (as:List (SE sc)) (p1 p:Pos) (hx:sc.nm.gens[f]?=some x) (hg:isGlob sc x=true):SI sc:=⟨.Call (.Name x p1) (exprs as) [] p,false,fun Φ σ=>(evL Φ σ as).bind (Φ.gen f),.call,
 fun {Z σ ws s xs} V e K tp hK _ Q E h=>onBind e fun ps e1 e=>wpAny_Call_NameR (global V hg (V.K.gens f x (V.nm▸hx)) (V.K.callg f x (V.nm▸hx) _ p [] _ _ E _ (no_stars as) (evL_ok V e1 fun vs s₁ x₁ V₁ rl=>⟨V₁.g,(V₁.P.gen f vs ps xs s₁ _ e V₁.toBs.of rl K tp hK) Q E fun it W S s₂ y I=>h.after x₁ it W S s₂ y I.of⟩) V.g))⟩
end
end Mine
end
section
open PySem PySem.W PyProof.Rows
namespace Mine
noncomputable def seen (names:List (Str × NameKind)) (x:Str):Str:=bif names.lookup x==some .free then x else ("":Str)
noncomputable abbrev closSC (sc:SC) (scope:Scope) (vars:List Str):SC:={ sc with N:=scope.names,Γ:=vars++sc.Γ.map (seen scope.names),own:=none }
structure ClosOk (fd:FuncData) (params locals:List Str) (body:FuncBody) (scope:Scope) (env:Env):Prop where
 scopeIs:fd.scope=scope
 kind:scope.kind=.function
 co:scope.isCoroutine=false
 gen:scope.isGenerator=false
 body:fd.body=body
 glob:fd.globals=mainGlobals
 blt:fd.builtins=builtinsNs
 clo:∀ x,(x,NameKind.free)∈scope.names→fd.closure.lookup x=env.cells.lookup x
 nodup:(params++locals).Nodup
 loc:∀ x∈params++locals,scope.names.lookup x=some .local
 nocell:∀ x k,(x,k)∈scope.names→k≠NameKind.cell
 blank:scope.names.lookup ("":Str)=none
 bind:∀ vs:List Value,vs.length=params.length→bindArgs fd ⟨vs,[]⟩=pure (params.zip vs)
theorem cellsFrom_nocell:∀ (names:List (Str × NameKind)) (n:Nat) (acc:List (Str × Addr)),(∀ x k,(x,k)∈names→k≠NameKind.cell)→cellsFrom n names acc=acc
 | [],n,acc,h=>rfl
 | (x,k)::r,n,acc,h=>by
  unfold cellsFrom
  cases hk:k==NameKind.cell with
  | true=>exact absurd (eq_of_beq hk) (h x k List.mem_cons_self)
  | false=>exact cellsFrom_nocell r n acc fun y j hm=>h y j (List.mem_cons_of_mem _ hm)
section
variable {sc:SC} {Z:Fr} {σ:List Slot} {ws:Nat→Option Value} {s s':Shared} {C:Addr} {vars:List Str} {env:Env} {d:Nat} {Ar:Around} {ps:List PV} {vs:List Value}
noncomputable abbrev Fr.clos (Z:Fr) (Ar:Around) (d:Nat) (env:Env) (C:Addr) (vars:List Str):Fr :=
 {X:=Z.X,Φ:=Z.Φ,Ar:=Ar,d:=d,env:=env,ls:=vars.map (Loc.loc C)++Z.ls,B:=fun a=>Z.B a∧a≠C,U:=fun a=>Z.U a∨a=C,wr:=vars.length+Z.wr,ow:=vars.length+Z.ls.length,fx:=Z.fx }
theorem clos_dy (V:Ey Z sc σ ws s) (R:Room Ar d) (x:Stp Z.X Z.X.V s s') (hC:s.heap.get? C=none∧Z.X.N≤C) (hn:∃ m,s'.heap.Ns C m) (he:env.locals=C) (hv:vars.Nodup):∃ ws',Dy (Z.clos Ar d env C vars) (unsets vars.length σ) ws' s':=by
 have D₁:=V.toDy.step x
 obtain ⟨m,hm⟩:=hn
 obtain ⟨oc,ec,nc,nl⟩:=ns_code hm
 have mv:∀ a o,Z.B a→s.heap.get? a=some o→(Z.B a∧a≠C)∧s'.heap.get? a=some o:=fun a o b e=>⟨⟨b,fun q=>none_at (q▸hC.1) ⟨o,e⟩⟩,x.off a o (V.sub a b) e⟩
 have loc:∀ (i:Nat) (l:Loc),(vars.map (Loc.loc C)++Z.ls)[i]?=some l→(i < vars.length∧∃ y,vars[i]?=some y∧l=Loc.loc C y)∨(¬ i < vars.length∧Z.ls[i - vars.length]?=some l):=fun i l e=>by
  by_cases hi:i < vars.length
  ·rw [List.getElem?_append_left (by rw [List.length_map]; exact hi),List.getElem?_map] at e
   exact onMap e fun y e q=>.inl ⟨hi,y,e,q.symm⟩
  ·rw [List.getElem?_append_right (by rw [List.length_map]; exact Nat.not_lt.mp hi),List.length_map] at e
   exact .inr ⟨hi,e⟩
 refine ⟨shiftW vars m ws,{ K:=V.K,R:=R,g:=D₁.g,fresh:=fun a n e=>⟨D₁.fresh a n e,fun q=>none_at (q▸e) ⟨oc,ec⟩⟩,sub:=fun a b=>V.sub a b.1,dis:=fun a u b=>u.elim (fun u=>V.dis a u b.1) b.2,turn:=fun a u=>u.elim (D₁.turn a) fun q=>(by rw [q]; exact ⟨hC.2,oc,ec,nc⟩),len:=?_,pl:=fun i l e=>?_,hi:=fun l m=>?_,ok:=fun i t e=>?_,mine:=fun i l hi e=>?_,ownU:=fun i xs a hi e q=>?_,apart:=?_,nsl:=(by rw [show (Z.clos Ar d env C vars).env.locals=C from he]; exact ⟨hC.2,m,hm⟩),once:=fun i j xs ys e1 e2 e3=>?_ }⟩
 ·show (vars.map (Loc.loc C)++Z.ls).length=(unsets vars.length σ).length
  unfold unsets
  rw [List.length_append,List.length_append,List.length_map,List.length_replicate,V.len]
 ·unfold shiftW
  rcases loc i l e with ⟨hi,y,ey,rfl⟩ | ⟨hi,e⟩
  ·rw [if_pos hi,ey]; exact ⟨m,hm,rfl⟩
  ·rw [if_neg hi]; exact D₁.pl _ l e
 ·rcases unsets_at e with rfl | ⟨hk,e⟩
  ·trivial
  ·unfold shiftW
   rw [if_neg (Nat.not_lt.mpr hk)]
   have q:=V.ok _ t e
   cases t with
   | unset=>trivial
   | val p=>exact q.imp fun v q=>⟨q.1,Mine.Rep.move q.2 mv⟩
   | own c=>exact ContV.move q rfl mv (fun a _ vs n _ _ u e=>x.off a _ (.inl u) e) fun a ob _ _ _ _ u f e=>⟨⟨fun l m=>(List.mem_append.mp m).elim (fun m=>by
     obtain ⟨y,_,rfl⟩:=List.mem_map.mp m
     exact fun (z:a=C)=>none_at hC.1 ⟨ob,z▸e⟩) (f.1 l),fun z=>none_at hC.1 ⟨ob,(z.trans he)▸e⟩⟩,x.off a ob (.inl u) e⟩
   | fn v=>exact q
   | is v=>exact q
 ·rcases List.mem_append.mp m with m | m
  ·obtain ⟨y,_,rfl⟩:=List.mem_map.mp m
   exact hC.2
  ·exact V.hi l m
 ·rcases loc i l e with ⟨_,y,_,rfl⟩ | ⟨h,e⟩
  ·exact .inr rfl
  ·exact .inl (V.mine _ l (Nat.sub_lt_left_of_lt_add (Nat.not_lt.mp h) hi) e)
 ·rcases unsets_at e with z | ⟨h1,e⟩
  ·exact nomatch z
  ·unfold shiftW at q
   rw [if_neg (Nat.not_lt.mpr h1)] at q
   exact .inl (V.ownU _ xs a (Nat.lt_of_lt_of_le (by rw [V.len]; exact (List.getElem?_eq_some_iff.mp e).1) V.al) e q)
 ·refine List.nodup_append.mpr ⟨List.Pairwise.map _ (fun _ _ n e=>n (by injection e)) hv,V.apart,fun l m l' m' e=>?_⟩
  obtain ⟨y,_,rfl⟩:=List.mem_map.mp m
  exact (V.notL hC.1).1 l' m' (e▸rfl)
 ·rcases unsets_at e1 with q | ⟨h1,e1⟩
  ·exact nomatch q
  ·rcases unsets_at e2 with q | ⟨h2,e2⟩
   ·exact nomatch q
   ·unfold shiftW at e3
    rw [if_neg (Nat.not_lt.mpr h1),if_neg (Nat.not_lt.mpr h2)] at e3
    have q:=V.once _ _ xs ys e1 e2 e3
    rw [← Nat.sub_add_cancel h1,q,Nat.sub_add_cancel h2]
theorem clos_env {fd:FuncData} {params locals:List Str} {stmts:FuncBody} {scope:Scope} {F:Addr} (EO:EnvOk Z.env sc Z.ls) (K:ClosOk fd params locals stmts scope Z.env) (hfree:∀ x,(x,NameKind.free)∈scope.names→sc.N.lookup x=some .cell∨sc.N.lookup x=some .free) :
  EnvOk (newEnv scope C fd.globals fd.closure (fd.qualname++".<locals>.") (some F) fd.code none fd.builtins) (closSC sc scope (params++locals)) ((params++locals).map (Loc.loc C)++Z.ls):=by
 have split:∀ (i:Nat) (x:Str) (l:Loc),((params++locals)++sc.Γ.map (seen scope.names))[i]?=some x→((params++locals).map (Loc.loc C)++Z.ls)[i]?=some l→(x∈params++locals∧l=Loc.loc C x)∨(x=""∨(scope.names.lookup x=some NameKind.free∧∃ j:Nat,sc.Γ[j]?=some x∧Z.ls[j]?=some l)):=fun i x l e1 e2=>by
  by_cases hi:i < (params++locals).length
  ·rw [List.getElem?_append_left hi] at e1
   rw [List.getElem?_append_left (by rw [List.length_map]; exact hi),List.getElem?_map,e1] at e2
   exact .inl ⟨List.mem_of_getElem? e1,(Option.some.inj e2).symm⟩
  ·have hi:=Nat.not_lt.mp hi
   rw [List.getElem?_append_right hi,List.getElem?_map] at e1
   rw [List.getElem?_append_right (by rw [List.length_map]; exact hi),List.length_map] at e2
   refine onMap e1 fun y h1 h2=>.inr ?_
   unfold seen at h2
   cases h:scope.names.lookup y==some NameKind.free with
   | false=>rw [h] at h2; exact .inl h2.symm
   | true =>
    rw [h] at h2
    have h2:y=x:=h2
    exact .inr ⟨h2▸eq_of_beq h,_,h2▸h1,e2⟩
 have blank:∀ {k},scope.names.lookup ("":Str)=some k→False:=fun q=>by rw [K.blank] at q; exact nomatch q
 refine ⟨K.kind,rfl,K.glob,K.blt,?_,fun i x l e1 e2 e3=>?_,fun i x l e1 e2 e3=>?_,fun c q e=>no e⟩
 ·show _=((params++locals)++sc.Γ.map _).length
  rw [List.length_append (as:=(params++locals).map (Loc.loc C)),List.length_append (as:=params++locals),List.length_map,List.length_map,EO.len]
 ·have e3:scope.names.lookup x=some .local:=e3
  rcases split i x l e1 e2 with ⟨_,rfl⟩ | rfl | ⟨h,_⟩
  ·rfl
  ·exact (blank e3).elim
  ·rw [h] at e3; exact nomatch e3
 ·have e3:scope.names.lookup x=some .cell∨scope.names.lookup x=some .free:=e3
  rcases split i x l e1 e2 with ⟨h,_⟩ | rfl | ⟨h,j,h1,h2⟩
  ·rw [K.loc x h] at e3; exact e3.elim (fun q=>nomatch q) fun q=>nomatch q
  ·exact (e3.elim blank blank).elim
  ·obtain ⟨c,h3,h4⟩:=EO.cel j x l h1 h2 (hfree x (mem_of_lookup h))
   exact ⟨c,(K.clo x (mem_of_lookup h)).trans h3,h4⟩
theorem setFrom_app:∀ (ps:List PV) (k:Nat) (σ τ:List Slot),k+ps.length≤σ.length→setFrom k ps (σ++τ)=setFrom k ps σ++τ
 | [],k,σ,τ,h=>rfl
 | p::ps,k,σ,τ,h=>by
  have h:k+1+ps.length≤σ.length:=by rw [Nat.add_right_comm]; exact h
  unfold setFrom
  rw [List.set_append_left _ _ (Nat.lt_of_lt_of_le (Nat.lt_of_lt_of_le (Nat.lt_succ_self k) (Nat.le_add_right _ _)) h)]
  exact setFrom_app ps (k+1) _ τ (by rw [List.length_set]; exact h)
theorem clos_bind {fd:FuncData} {params locals:List Str} {body:FuncBody} {scope:Scope} {F:Addr} {Rr:Env→Shared→Prop} {E:Value→Shared→Prop} (V:Ey Z sc σ ws s) (hd:Z.d=d+1) (K:ClosOk fd params locals body scope Z.env) (hfree:∀ x,(x,NameKind.free)∈scope.names→sc.N.lookup x=some .cell∨sc.N.lookup x=some .free)
  (rl:Z.RepL s.heap ps vs) (hlen:ps.length=params.length)
  (run:∀ env C ws₂ s₂,env.locals=C→EnvOk env (closSC sc scope (params++locals)) ((params++locals).map (Loc.loc C)++Z.ls)→Stp Z.X Z.K s s₂→s.heap.get? C=none∧Z.X.N≤C→Dy (Z.clos (Z.Ar.deeper env) d env C (params++locals)) (ps.map Slot.val++List.replicate locals.length .unset++σ) ws₂ s₂→Rr env s₂) :
  wpAny Z.X.M Z.Ar.in1 (newFunctionEnv scope fd.globals fd.closure (params.zip vs) (fd.qualname++".<locals>.") (some F) fd.code none fd.builtins) Rr E s:=by
 have R:Room Z.Ar (d+1):=hd▸V.R
 refine new_def_env ?_
 obtain ⟨N,hi,F',_,Kx⟩:=frame_ok s.heap scope.names (.type "frame") (params++locals)
 have hns:=F'.ns
 clear F' N hi
 have EO:=fun C=>clos_env (C:=C) (F:=F) V.EO K hfree
 have new:∀ a,s.heap.objs.size≤a→s.heap.get? a=none∧Z.X.N≤a:=fun a l=>⟨get_ge l,Nat.le_trans (V.K.size _ V.g) l⟩
 rw [cellsFrom_nocell _ _ fd.closure K.nocell]
 revert hns Kx new
 generalize pushCells (s.heap.push { cls:=.type "frame",data:=.dict #[] }) scope.names=H
 generalize s.heap.objs.size=C
 intro Kx hns new
 have hC:=new C (Nat.le_refl _)
 have EO:=EO C
 generalize he:newEnv scope C fd.globals fd.closure (fd.qualname++".<locals>.") (some F) fd.code none fd.builtins=env at *
 have hL:env.locals=C:=by rw [← he]; rfl
 have x₁:Stp Z.X Z.X.V s { s with heap:=H }:=V.toBs.ext (tk:=s.toks) Kx
 obtain ⟨ws₁,D₁⟩:=clos_dy (env:=env) V (R.in1) x₁ hC hns hL K.nodup
 have rl₁:(Z.clos Z.Ar.in1 d env C (params++locals)).RepL H ps vs:=Mine.RepL.move (fun b o q e=>⟨⟨q,fun u=>none_at (u▸hC.1) ⟨o,e⟩⟩,Kx b o e⟩) rl
 refine bind_params (Z:=Z.clos Z.Ar.in1 d env C (params++locals)) EO params vs ps 0 _ ws₁ _ _ D₁ hlen.symm rl₁ (fun j x e=>?_) fun ws₂ s₂ x₂ D₂=>?_
 ·have hx:(params++locals)[j]?=some x:=by
   rw [List.getElem?_append_left (List.getElem?_eq_some_iff.mp e).1]; exact e
  refine ⟨?_,by rw [Nat.zero_add]; exact Nat.lt_of_lt_of_le (List.getElem?_eq_some_iff.mp hx).1 (Nat.le_add_right _ _)⟩
  show (((params++locals)++sc.Γ.map (seen scope.names))[0+j]?==some x&&(scope.names.lookup x==some .local || _))=true
  rw [Nat.zero_add,List.getElem?_append_left (List.getElem?_eq_some_iff.mp hx).1,hx,beq_self_eq_true,K.loc x (List.mem_of_getElem? hx)]; rfl
 ·have y₂:Stp Z.X Z.K s s₂:=x₁.toK.on x₂ (fun b o k e=>⟨k.1,fun u=>u.elim k.2 fun q=>none_at (q▸hC.1) ⟨o,e⟩⟩) x₁.size
  have es:setFrom 0 ps (unsets (params++locals).length σ)=ps.map Slot.val++List.replicate locals.length .unset++σ:=by
   unfold unsets
   rw [setFrom_app _ _ _ _ (by rw [List.length_replicate,List.length_append,hlen,Nat.zero_add]; exact Nat.le_add_right _ _),show (params++locals).length=ps.length+locals.length by rw [List.length_append,hlen]]
   have h:=setFrom_is ps [] locals.length
   rw [List.nil_append,List.nil_append] at h
   exact congrArg (·++σ) h
  rw [es] at D₂
  exact run env C ws₂ s₂ hL EO y₂ hC { D₂ with R:=R.deeper }
theorem clos_call {fd:FuncData} {params locals:List Str} {stmts:List Stmt} {scope:Scope} {F:Addr} {o:Obj} (V:Ey Z sc σ ws s) (hd:Z.d=d+1) (hF:s.heap.get? F=some o) (ho:o.data=.func fd) (hc:s.heap.CodeRec fd.code fd.qualname) (K:ClosOk fd params locals (.stmts stmts) scope Z.env) (hfree:∀ x,(x,NameKind.free)∈scope.names→sc.N.lookup x=some .cell∨sc.N.lookup x=some .free)
  (rl:Z.RepL s.heap ps vs) (hlen:ps.length=params.length) {Q:Value→Shared→Prop} {E:Value→Shared→Prop}
  (run:∀ env C ws₂ s₂,env.locals=C→EnvOk env (closSC sc scope (params++locals)) ((params++locals).map (Loc.loc C)++Z.ls)→Stp Z.X Z.K s s₂→s.heap.get? C=none∧Z.X.N≤C→Dy (Z.clos (Z.Ar.deeper env) d env C (params++locals)) (ps.map Slot.val++List.replicate locals.length .unset++σ) ws₂ s₂ →
   ∀ E,wpAny Z.X.M (Z.Ar.deeper env) (execs stmts env) (fun f s₃=>Flow.casesOn (motive:=fun _=>Prop) f (Q .none s₃) False False fun v=>Q v s₃) E s₂):wpAny Z.X.M Z.Ar (call (.ref F) vs) Q E s:=by
 have R:Room Z.Ar (d+1):=hd▸V.R
 refine wpAny_call (codeAny_call_function R.depth hF ho (by rw [K.scopeIs]; exact K.co) (by rw [K.scopeIs]; exact K.gen) K.body hc ?_)
 rw [K.bind vs (by rw [rl.len]; exact hlen),K.scopeIs]
 refine wpAny_pure (clos_bind V hd K hfree rl hlen fun env C ws₂ s₂ hL EO y₂ hC D₂=>⟨V.K.nolimit _ D₂.g,codeAny_func ?_⟩)
 refine wpAny_mono (run env C ws₂ s₂ hL EO y₂ hC D₂ _) (fun f s₃ q=>?_) fun _ _ e=>e
 cases f with
 | next=>exact q
 | brk=>exact q.elim
 | cont=>exact q.elim
 | ret v=>exact q
theorem clos_callE {fd:FuncData} {params:List Str} {body:Expr} {scope:Scope} {F:Addr} {o:Obj} (V:Ey Z sc σ ws s) (hd:Z.d=d+1) (hF:s.heap.get? F=some o) (ho:o.data=.func fd) (hc:s.heap.CodeRec fd.code fd.qualname) (K:ClosOk fd params [] (.expr body) scope Z.env) (hfree:∀ x,(x,NameKind.free)∈scope.names→sc.N.lookup x=some .cell∨sc.N.lookup x=some .free)
  (rl:Z.RepL s.heap ps vs) (hlen:ps.length=params.length) {Q:Value→Shared→Prop} {E:Value→Shared→Prop}
  (run:∀ env C ws₂ s₂,env.locals=C→EnvOk env (closSC sc scope (params++[])) ((params++[]).map (Loc.loc C)++Z.ls)→Stp Z.X Z.K s s₂→s.heap.get? C=none∧Z.X.N≤C→Dy (Z.clos (Z.Ar.deeper env) d env C (params++[])) (ps.map Slot.val++σ) ws₂ s₂ →
   ∀ E,wpAny Z.X.M (Z.Ar.deeper env) (eval body env) (fun v s₃=>Q v s₃) E s₂):wpAny Z.X.M Z.Ar (call (.ref F) vs) Q E s:=by
 have R:Room Z.Ar (d+1):=hd▸V.R
 refine wpAny_call (kla_callFunE R.depth hF ho (by rw [K.scopeIs]; exact K.co) (by rw [K.scopeIs]; exact K.gen) K.body hc ?_)
 rw [K.bind vs (by rw [rl.len]; exact hlen),K.scopeIs]
 refine wpAny_pure (clos_bind V hd K hfree rl hlen fun env C ws₂ s₂ hL EO y₂ hC D₂=>⟨V.K.nolimit _ D₂.g,kla_codeExpr ?_⟩)
 rw [show ps.map Slot.val++List.replicate ([]:List Str).length .unset++σ=ps.map Slot.val++σ by rw [List.length_nil,List.replicate_zero,List.append_nil]] at D₂
 exact run env C ws₂ s₂ hL EO y₂ hC D₂ _
end
end Mine
end
section
open PySem PySem.W PyProof.Rows
namespace Mine
section
variable {sc:SC} {Z:Fr} {σ σ' τ:List Slot} {ws ws':Nat→Option Value} {s s₂ s₃ s':Shared} {C:Addr} {vars:List Str} {env:Env} {d:Nat} {Ar:Around} {B U B' U':Addr→Prop}
noncomputable abbrev Fr.re (Z:Fr) (Ar:Around) (d:Nat) (B U:Addr→Prop):Fr:={ Z with Ar:=Ar,d:=d,B:=B,U:=U }
theorem ns_ls (D:Dy ((Z.clos Ar d env C vars).bu B U) σ ws s) (hL:∃ x,Loc.loc Z.env.locals x∈Z.ls):Z.X.N≤Z.env.locals∧∃ m,s.heap.Ns Z.env.locals m:=by
 obtain ⟨x,hx⟩:=hL
 have hx':Loc.loc Z.env.locals x∈vars.map (Loc.loc C)++Z.ls:=List.mem_append_right _ hx
 obtain ⟨i,e⟩:=List.mem_iff_getElem?.mp hx'
 obtain ⟨m,h,_⟩:=D.pl _ _ e
 exact ⟨D.hi _ hx',m,h⟩
theorem Dy.outer (D:Dy ((Z.clos Ar d env C vars).bu B U) (τ++σ) ws s) (hτ:τ.length=vars.length) (hn:Z.X.N≤Z.env.locals∧∃ m,s.heap.Ns Z.env.locals m) (hl:∀ l∈Z.ls,l.addr≠C) (he:env.locals=C) (hdl:∀ (i:Nat) (c:Cont),σ[i]?=some (.own c)→∃ x,Loc.loc Z.env.locals x∈Z.ls):Dy (Z.re Ar d B fun a=>U a∧a≠C) σ (fun i=>ws (vars.length+i)) s:=by
 have len:(vars.map (Loc.loc C)).length=vars.length:=List.length_map _
 have i1:∀ {i:Nat} {l:Loc},Z.ls[i]?=some l→(vars.map (Loc.loc C)++Z.ls)[vars.length+i]?=some l:=fun q=>by
  rw [List.getElem?_append_right (by rw [len]; exact Nat.le_add_right _ _),len,Nat.add_sub_cancel_left]; exact q
 have i2:∀ {i:Nat} {t:Slot},σ[i]?=some t→(τ++σ)[vars.length+i]?=some t:=fun q=>by
  rw [List.getElem?_append_right (by rw [hτ]; exact Nat.le_add_right _ _),hτ,Nat.add_sub_cancel_left]; exact q
 obtain ⟨m,hm⟩:=D.nsl.2
 have hm:s.heap.Ns C m:=(show ((Z.clos Ar d env C vars).bu B U).env.locals=C from he)▸hm
 obtain ⟨oc,ec,nc,nl⟩:=ns_code hm
 refine { K:=D.K,R:=D.R,g:=D.g,fresh:=D.fresh,sub:=D.sub,dis:=fun a u=>D.dis a u.1,turn:=fun a u=>D.turn a u.1,len:=?_,pl:=fun i l e=>D.pl _ l (i1 e),hi:=fun l m=>D.hi l (List.mem_append_right _ m),ok:=fun i t e=>?_,mine:=fun i l hi e=>⟨D.mine _ l (Nat.add_lt_add_left hi _) (i1 e),hl l (List.mem_of_getElem? e)⟩,ownU:=fun i xs a hi e q=>⟨D.ownU _ xs a (Nat.add_lt_add_left ?_ _) (i2 e) q,fun z=>?_⟩,apart:=(List.nodup_append.mp D.apart).2.1,nsl:=hn,once:=fun i j xs ys e1 e2 e3=>Nat.add_left_cancel (D.once _ _ xs ys (i2 e1) (i2 e2) e3) }
 ·have:=D.len
  rw [show ((Z.clos Ar d env C vars).bu B U).ls=vars.map (Loc.loc C)++Z.ls from rfl,List.length_append,List.length_append,len,hτ] at this
  exact Nat.add_left_cancel this
 ·have q:=D.ok _ t (i2 e)
  cases t with
  | unset=>trivial
  | val p=>exact q
  | own c=>exact ContV.move q rfl (fun a ob b e=>⟨b,e⟩) (fun _ _ _ _ _ _ _ e=>e) fun a ob _ _ _ _ _ f e'=>⟨⟨fun l m=>f.1 l (List.mem_append_right _ m),(hdl i c e).elim fun x hx=>f.1 _ (List.mem_append_right _ hx)⟩,e'⟩
  | is k=>exact q
  | fn k=>exact q
 ·have:=D.len
  rw [show ((Z.clos Ar d env C vars).bu B U).ls=vars.map (Loc.loc C)++Z.ls from rfl,List.length_append,List.length_append,len,hτ] at this
  rw [Nat.add_left_cancel this]
  exact (List.getElem?_eq_some_iff.mp e).1
 ·cases xs with
  | d ks xs =>
   obtain ⟨a',vs,h1,h2,_⟩:=D.ok _ _ (i2 e)
   rw [h1] at q
   injection q with q
   injection q with q
   exact h2.2.2 ((q.trans z).trans he.symm)
  | l xs =>
  obtain ⟨v,vs,h1,⟨a',n,rfl,_,h3⟩,_⟩:=D.ok _ _ (i2 e)
  rw [h1] at q
  injection q with q
  injection q with q
  rw [q,z,ec] at h3
  exact nl _ _ (Option.some.inj h3)
theorem Dy.join (D:Dy ((Z.clos Ar d env C vars).bu B U) (τ++σ) ws s) (hτ:τ.length=vars.length) (no:NoOwn τ) (he:env.locals=C) (hal:Z.ls.length≤Z.ow) (hU:U C) (g:Grown (Z.re Ar d B fun a=>U a∧a≠C) s s' B' U') (D':Dy (Z.re Ar d B' U') σ' ws' s') :
  Dy ((Z.clos Ar d env C vars).bu B' fun a=>U' a∨a=C) (τ++σ') (fun i=>if i < vars.length then ws i else ws' (i - vars.length)) s':=by
 have len:(vars.map (Loc.loc C)).length=vars.length:=List.length_map _
 have kC:∀ o,s.heap.get? C=some o→s'.heap.get? C=some o:=fun o=>g.x.off C o ⟨.inl (D.turn C hU).1,fun u=>u.2 rfl⟩
 have hC:=D.turn C hU
 have nB:¬ B' C:=fun b=>(g.hB C b).elim (D.dis C hU) fun q=>q.elim (fun u=>u.2 rfl) fun n=>none_at n.2 (hC.2.imp fun _ q=>q.1)
 have nU':¬ U' C:=fun u=>(g.hU C u).elim (fun u=>u.2 rfl) fun n=>none_at n.2 (hC.2.imp fun _ q=>q.1)
 have neC:∀ (i:Nat) (c:Cont) (a:Addr),σ'[i]?=some (.own c)→ws' i=some (.ref a)→a≠C:=fun i c a e q z=>nU' (z▸D'.ownU i c a (Nat.lt_of_lt_of_le (D'.len▸(List.getElem?_eq_some_iff.mp e).1) hal) e q)
 have l1:∀ {i:Nat} {l:Loc},i < vars.length→(vars.map (Loc.loc C)++Z.ls)[i]?=some l→∃ y,l=Loc.loc C y:=fun hi e=>by
  rw [List.getElem?_append_left (by rw [len]; exact hi),List.getElem?_map] at e
  exact onMap e fun y _ q=>⟨y,q.symm⟩
 have l2:∀ {i:Nat} {l:Loc},¬ i < vars.length→(vars.map (Loc.loc C)++Z.ls)[i]?=some l→Z.ls[i - vars.length]?=some l:=fun hi e=>by
  rw [List.getElem?_append_right (by rw [len]; exact Nat.not_lt.mp hi),len] at e; exact e
 have t1:∀ {ρ:List Slot} {i:Nat} {t:Slot},i < vars.length→(τ++ρ)[i]?=some t→τ[i]?=some t:=fun hi e=>by
  rw [List.getElem?_append_left (by rw [hτ]; exact hi)] at e; exact e
 have t2:∀ {i:Nat} {t:Slot},¬ i < vars.length→(τ++σ')[i]?=some t→σ'[i - vars.length]?=some t:=fun hi e=>by
  rw [List.getElem?_append_right (by rw [hτ]; exact Nat.not_lt.mp hi),hτ] at e; exact e
 refine { K:=D.K,R:=D.R,g:=D'.g,fresh:=D'.fresh,sub:=D'.sub,dis:=fun a u=>u.elim (D'.dis a) fun q b=>nB (q▸b),turn:=fun a u=>u.elim (D'.turn a) fun q=>(by rw [q]; exact ⟨hC.1,hC.2.imp fun o q=>⟨kC o q.1,q.2⟩⟩),len:=?_,pl:=fun i l e=>?_,hi:=D.hi,ok:=fun i t e=>?_,mine:=fun i l hi e=>?_,ownU:=fun i xs a hi e q=>?_,apart:=D.apart,nsl:=?_,once:=fun i j xs ys e1 e2 e3=>?_ }
 ·show (vars.map (Loc.loc C)++Z.ls).length=(τ++σ').length
  rw [List.length_append,List.length_append,len,hτ]
  exact congrArg (vars.length+·) D'.len
 ·by_cases hi:i < vars.length
  ·obtain ⟨y,rfl⟩:=l1 hi e
   rw [if_pos hi]
   exact (D.pl i _ e).keep kC
  ·rw [if_neg hi]; exact D'.pl _ l (l2 hi e)
 ·by_cases hi:i < vars.length
  ·rw [if_pos hi]
   have q:=D.ok i t (by rw [List.getElem?_append_left (by rw [hτ]; exact hi)]; exact t1 hi e)
   have mv:∀ a o,B a→s.heap.get? a=some o→B' a∧s'.heap.get? a=some o:=fun a o b e=>⟨g.kB a o b e,g.x.off a o ⟨D.sub a b,fun u=>D.dis a u.1 b⟩ e⟩
   cases t with
   | unset=>trivial
   | val p=>exact q.imp fun v q=>⟨q.1,Mine.Rep.move q.2 mv⟩
   | own xs=>exact absurd (t1 hi e) (no i xs)
   | is v=>exact q
   | fn v=>exact q
  ·rw [if_neg hi]
   have q:=D'.ok _ t (t2 hi e)
   cases t with
   | unset=>trivial
   | val p=>exact q
   | own c =>
    refine ContV.move q rfl (fun a ob b e=>⟨b,e⟩) (fun _ _ _ _ _ _ _ e=>e) fun a ob _ _ _ eo _ f e'=>⟨⟨fun l m=>(List.mem_append.mp m).elim (fun m=>?_) (f.1 l),?_⟩,e'⟩
    ·obtain ⟨y,_,rfl⟩:=List.mem_map.mp m
     exact neC _ _ _ (t2 hi e) eo
    ·exact fun z=>neC _ _ _ (t2 hi e) eo (z.trans he)
   | is v=>exact q
   | fn v=>exact q
 ·by_cases h:i < vars.length
  ·obtain ⟨y,rfl⟩:=l1 h e
   exact .inr rfl
  ·exact .inl (D'.mine _ l (Nat.sub_lt_left_of_lt_add (Nat.not_lt.mp h) hi) (l2 h e))
 ·by_cases h:i < vars.length
  ·exact absurd (t1 h e) (no i xs)
  ·rw [if_neg h] at q
   have e:=t2 h e
   exact .inl (D'.ownU _ xs a (Nat.lt_of_lt_of_le (D'.len▸(List.getElem?_eq_some_iff.mp e).1) hal) e q)
 ·obtain ⟨m,hm⟩:=D.nsl.2
  exact ⟨D.nsl.1,m,hm.at' fun o e=>by
   rw [show ((Z.clos Ar d env C vars).bu B U).env.locals=C from he] at e ⊢
   exact kC o e⟩
 ·by_cases h1:i < vars.length
  ·exact absurd (t1 h1 e1) (no i xs)
  ·by_cases h2:j < vars.length
   ·exact absurd (t1 h2 e2) (no j ys)
   ·rw [if_neg h1,if_neg h2] at e3
    have q:=D'.once _ _ xs ys (t2 h1 e1) (t2 h2 e2) e3
    rw [← Nat.sub_add_cancel (Nat.not_lt.mp h1),q,Nat.sub_add_cancel (Nat.not_lt.mp h2)]
end
end Mine
end
section
open PySem PySem.W PyProof.Rows
namespace Mine
theorem FnStands.codeRec {X:Cx} {h:Heap} {F:Addr} {fd:FuncData} (st:FnStands X h F fd):h.CodeRec fd.code fd.qualname:=by
 obtain ⟨c,oc,vs,t,h1,h2,h3,h4,h5,h6⟩:=st.code
 exact ⟨c,oc,vs,t,h1,h2,h4,h5⟩
theorem FnStands.off {X:Cx} {K:Addr→Prop} {g:Nat} {s s':Shared} {F:Addr} {fd:FuncData} (st:FnStands X s.heap F fd) (x:St X K g s s') (h:K F) (hc:∀ a o,X.V a→s.heap.get? a=some o→¬ NotCode o→K a):FnStands X s'.heap F fd:=by
 obtain ⟨c,oc,vs,t,h1,h2,h3,h4,h5,h6⟩:=st.code
 exact ⟨st.obj.imp fun o q=>⟨x.off F o h q.1,q.2⟩,st.hi,c,oc,vs,t,h1,x.off c oc (hc c oc h6 h2 fun n=>n.elim (fun n=>n h3) fun n=>n vs h4) h2,h3,h4,h5,h6⟩
theorem FnStands.stp {X:Cx} {s s':Shared} {F:Addr} {fd:FuncData} (st:FnStands X s.heap F fd) (x:Stp X X.V s s'):FnStands X s'.heap F fd:=st.off x (.inl st.hi) fun a o n _ _=>n
theorem FnStands.dy {Z:Fr} {σ:List Slot} {ws:Nat→Option Value} {s s':Shared} {F:Addr} {fd:FuncData} (st:FnStands Z.X s.heap F fd) (D:Dy Z σ ws s) (hU:¬ Z.U F) (x:Stp Z.X Z.K s s'):FnStands Z.X s'.heap F fd :=
 st.off x ⟨.inl st.hi,hU⟩ fun a o n e c=>⟨n,fun u=>(D.turn a u).2.elim fun o' q=>c (Option.some.inj (q.1.symm.trans e)▸q.2)⟩
noncomputable def isTag (σ:List Slot) (i k:Nat):Bool:=Option.casesOn (motive:=fun _=>Bool) σ[i]? false fun t=>Slot.casesOn (motive:=fun _=>Bool) t false (fun _=>false) (fun _=>false) (fun j=>Nat.beq j k) fun _=>false
theorem isTag_is {σ:List Slot} {i k:Nat} (h:isTag σ i k=true):σ[i]?=some (.is k):=by
 unfold isTag at h
 cases e:σ[i]? with
 | none=>rw [e] at h; exact nomatch h
 | some t =>
  rw [e] at h
  cases t with
  | is j=>exact congrArg (fun x=>some (Slot.is x)) (Nat.eq_of_beq_eq_true h)
  | _=>exact nomatch h
section
variable {sc:SC} {Z:Fr} {σ σ' τ:List Slot} {ws ws':Nat→Option Value} {s s₂ s₃ s':Shared} {C:Addr} {vars:List Str} {env:Env} {d:Nat} {Ar:Around} {B U B' U':Addr→Prop} {F:Addr} {fd:FuncData} {ps:List PV} {Q:Value→Shared→Prop} {E:Value→Shared→Prop}
theorem call_is {i:Nat} {x:Str} {p1 p:Pos} {as:List (SE sc)} (V:Ev Z sc σ ws s) (hm:isVar sc i x=true) (hs:isTag σ i 0=true) (hx:Z.fx 0=.ref F) (st:FnStands Z.X s.heap F fd) (e:evL Z.Φ σ as=some ps)
  (k:∀ vs s₁,Stp Z.X Z.X.V s s₁→Ev Z sc σ ws s₁→FnStands Z.X s₁.heap F fd→Z.RepL s₁.heap ps vs→wpAny Z.X.M Z.Ar (call (.ref F) vs) Q E s₁):wpAny Z.X.M Z.Ar (eval (.Call (.Name x p1) (exprs as) [] p) Z.env) Q E s:=by
 have hw:ws i=some (.ref F):=hx▸V.ok i _ (isTag_is hs)
 obtain ⟨o,ho,hd⟩:=st.obj
 exact wpAny_Call_NameR (ldv V hm hw (Calls.callWith_function (o:=o) (fd:=fd) (args_call (evL_ok V e fun vs s₁ x₁ V₁ rl=>⟨⟨x₁.off F o (.inl st.hi) ho,hd⟩,k vs s₁ x₁ V₁ (st.stp x₁) rl⟩))))
theorem clos_grown (V:Dy Z σ ws s) (y:Stp Z.X Z.K s s₂) (hC:s.heap.get? C=none∧Z.X.N≤C) (D₂:Dy (Z.clos Ar d env C vars) σ' ws' s₂) (g:Grown (Z.clos Ar d env C vars) s₂ s₃ B U):Grown Z s s₃ B fun a=>U a∧a≠C :=
 ⟨y.on g.x (fun a o k e=>⟨k.1,fun u=>u.elim k.2 fun q=>none_at (q▸hC.1) ⟨o,e⟩⟩) y.size,fun a u=>(g.hU a u.1).elim (fun q=>q.elim .inl fun q=>absurd q u.2) fun n=>New.back n y,
  fun a b=>(g.hB a b).elim (fun q=>.inl q.1) fun q=>.inr (q.elim (fun q=>q.elim .inl fun q=>.inr (q▸⟨hC.2,hC.1⟩)) fun n=>New.back n y),fun a o b e=>g.kB a o ⟨b,fun q=>none_at (q▸hC.1) ⟨o,e⟩⟩ (y.off a o ⟨V.sub a b,fun u=>V.dis a u b⟩ e),fun a u=>g.al a (.inl u)⟩
theorem clos_to {isc:Scope} {vars:List Str} (hb:isc.names.lookup ("":Str)=none) {i:Nat} {x:Str} (h:isTo (closSC sc isc vars) i x=true):i < vars.length:=by
 obtain ⟨h1,h2⟩:=both h
 have h1:(vars++sc.Γ.map (seen isc.names))[i]?=some x:=eq_of_beq h1
 have h2:(isc.names.lookup x==some .local || isc.names.lookup x==some .cell)=true:=h2
 by_cases hi:i < vars.length
 ·exact hi
 ·rw [List.getElem?_append_right (Nat.not_lt.mp hi),List.getElem?_map] at h1
  refine onMap h1 fun y _ e=>?_
  unfold seen at e
  cases hf:isc.names.lookup y==some NameKind.free with
  | true =>
   rw [hf] at e
   have e:y=x:=e
   rw [← e,eq_of_beq hf] at h2
   exact nomatch h2
  | false =>
   rw [hf] at e
   have e:("":Str)=x:=e
   rw [← e,hb] at h2
   exact nomatch h2
theorem clos_ex {isc:Scope} (hb:isc.names.lookup ("":Str)=none) (hP:∀ Ar d,Room Ar d→Pf Z.X Z.Φ Ar d) (hnm:Z.X.nm=sc.nm) (EO:EnvOk env (closSC sc isc vars) (vars.map (Loc.loc C)++Z.ls)) (D:Dy ((Z.clos Ar d env C vars).bu B U) σ ws s):Ex ((Z.clos Ar d env C vars).bu B U) (closSC sc isc vars) σ ws s :=
 ⟨⟨⟨D,hP _ _ D.R,EO,hnm⟩,Nat.le_of_eq (by show (vars.map (Loc.loc C)++Z.ls).length=vars.length+Z.ls.length; rw [List.length_append,List.length_map])⟩,fun i x h=>Nat.lt_of_lt_of_le (clos_to hb h) (Nat.le_add_right _ _)⟩
end
end Mine
end
section
open PySem PySem.W PyProof.Rows
namespace Mine
theorem execs_append {env:Env}:∀ (pre rest:List Stmt),execs (pre++rest) env=(execs pre env >>= fun f=>match f with | .next=>execs rest env | f=>pure f)
 | [],rest=>rfl
 | st::pre,rest=>by
  rw [List.cons_append,execs_cons,execs_cons,bind_assoc]
  congr 1
  funext f
  cases f with
  | next=>exact execs_append pre rest
  | _=>rfl
noncomputable abbrev callSt {sc:SC} (x:Str) (p1 p pos:Pos) (as:List (SE sc)):Stmt:=.Expr (.Call (.Name x p1) (exprs as) [] p) pos
structure CloS (sc:SC) where
 t:SB sc
 base:SS sc
 rp:Pos
 ip:Pos
 rest:SL sc
 a1:List (SE sc)
 a2:List (SE sc)
 i1:Nat
 i2:Nat
 y1:Str
 y2:Str
 q1:Pos
 q2:Pos
 q3:Pos
 q4:Pos
 q5:Pos
 q6:Pos
 h:(isVar sc i1 y1&&isVar sc i2 y2)=true
noncomputable def nextOf (o:Option Out):Option (List Slot):=o.bind fun o=>Out.casesOn (motive:=fun _=>Option (List Slot)) o some (fun _=>none) fun _=>none
theorem nextOf_is {o:Option Out} {σ:List Slot} (e:nextOf o=some σ):o=some (.next σ):=onBind e fun o e1 e2=>by
 cases o with
 | next _=>rw [e1,Option.some.inj e2]
 | brk _=>exact no e2
 | ret _=>exact no e2
section
variable {sc:SC}
noncomputable def CloS.sts (b:CloS sc):List Stmt:=.If b.t.e [b.base.st,.Return none b.rp] [] b.ip::(b.rest.sts++[callSt b.y1 b.q1 b.q2 b.q3 b.a1,callSt b.y2 b.q4 b.q5 b.q6 b.a2])
noncomputable def cloGo (b:CloS sc) (np nl:Nat) (Φ:Fns) (f:Nat):List PV→List Slot→Option (List Slot) :=
 Nat.rec (motive:=fun _=>List PV→List Slot→Option (List Slot)) (fun _ _=>none) (fun _ r ps σ=>bif Nat.beq ps.length np then (fun σ₀=>(b.t.ev Φ σ₀).bind fun k=>bif k then (nextOf (b.base.ex Φ σ₀)).map (List.drop (np+nl)) else
  (nextOf (b.rest.ex Φ σ₀)).bind fun σ₁=>bif noOwn (σ₁.take (np+nl))&&isTag σ₁ b.i1 0 then (evL Φ σ₁ b.a1).bind fun p=>(r p (σ₁.drop (np+nl))).bind fun σ₂=>bif isTag (σ₁.take (np+nl)++σ₂) b.i2 0 then (evL Φ (σ₁.take (np+nl)++σ₂) b.a2).bind fun q=>r q σ₂ else none else none)
  (ps.map Slot.val++List.replicate nl .unset++σ) else none) f
section
variable {Z:Fr} {F:Addr} {fd:FuncData} {isc:Scope} {par loc:List Str}
theorem join_grown {Ar:Around} {d:Nat} {env:Env} {C:Addr} {vars:List Str} {σ:List Slot} {ws:Nat→Option Value} {s s':Shared} {B U B' U':Addr→Prop} (D:Dy ((Z.clos Ar d env C vars).bu B U) σ ws s) (hU:U C) (g:Grown (Z.re Ar d B fun a=>U a∧a≠C) s s' B' U') (ex:∃ o,s'.heap.get? C=some o) :
  Grown ((Z.clos Ar d env C vars).bu B U) s s' B' fun a=>U' a∨a=C :=
 ⟨g.x.weak fun a k=>⟨k.1,fun u=>k.2 u.1⟩,fun a u=>u.elim (fun u=>(g.hU a u).imp (fun q=>q.1) id) fun q=>.inl (by rw [q]; exact hU),fun a b=>(g.hB a b).imp id fun q=>q.imp (fun q=>q.1) id,g.kB,fun a u=>by
  by_cases q:a=C
  ·exact q▸ex
  ·exact g.al a ⟨u,q⟩⟩
theorem clo_ok (b:CloS (closSC sc isc (par++loc))) (K:ClosOk fd par loc (.stmts b.sts) isc Z.env) (hfree:∀ x,(x,NameKind.free)∈isc.names→sc.N.lookup x=some .cell∨sc.N.lookup x=some .free) (EO:EnvOk Z.env sc Z.ls) (hnm:Z.X.nm=sc.nm) (hP:∀ Ar d,Room Ar d→Pf Z.X Z.Φ Ar d)
  (hL:∃ x,Loc.loc Z.env.locals x∈Z.ls) (hal:Z.ls.length≤Z.ow) (hx:Z.fx 0=.ref F) (hpos:0 < (par++loc).length):∀ (f:Nat) {Ar:Around} {B U:Addr→Prop} {σ σ':List Slot} {ws:Nat→Option Value} {s:Shared} {ps:List PV} {vs:List Value} {Q:Value→Shared→Prop} {E:Value→Shared→Prop},
  Dy (Z.re Ar f B U) σ ws s→FnStands Z.X s.heap F fd→¬ U F→Mine.RepL s.heap B ps vs→cloGo b par.length loc.length Z.Φ f ps σ=some σ'→(∀ s' B' U' ws',Grown (Z.re Ar f B U) s s' B' U'→Dy (Z.re Ar f B' U') σ' ws' s'→Q .none s')→wpAny Z.X.M Ar (call (.ref F) vs) Q E s:=by
 intro f
 induction f with
 | zero=>intro _ _ _ _ _ _ _ _ _ _ _ _ _ _ _ e; exact no e
 | succ f ih =>
  intro Ar B U σ σ' ws s ps vs Q E D st hU rl e h
  obtain ⟨hv1,hv2⟩:=both b.h
  have e:(bif Nat.beq ps.length par.length then _ else _)=some σ':=e
  cases hl:Nat.beq ps.length par.length with
  | false=>rw [hl] at e; exact no e
  | true =>
   rw [hl] at e
   obtain ⟨o,ho,hod⟩:=st.obj
   refine clos_call (Z:=Z.re Ar (f+1) B U) ⟨⟨D,hP _ _ D.R,EO,hnm⟩,hal⟩ rfl ho hod st.codeRec K hfree rl (Nat.eq_of_beq_eq_true hl) fun env C ws₂ s₂ he EO' y hC D₂ E'=>?_
   have V₂:Ex ((Z.clos (Ar.deeper env) f env C (par++loc)).bu (fun a=>B a∧a≠C) fun a=>U a∨a=C) (closSC sc isc (par++loc)) _ ws₂ s₂:=clos_ex K.blank hP hnm EO' D₂
   have hls:=(D.notL hC.1).1
   have nv:(par++loc).length=par.length+loc.length:=List.length_append
   have hFC:F≠C:=fun q=>none_at (q▸hC.1) ⟨o,ho⟩
   have st₂:FnStands Z.X s₂.heap F fd:=st.dy (Z:=Z.re Ar (f+1) B U) D hU y
   have parts:∀ {σ₃:List Slot} {w:Nat→Option Value} {s₃:Shared} {B₃ U₃:Addr→Prop},Dy ((Z.clos (Ar.deeper env) f env C (par++loc)).bu B₃ U₃) σ₃ w s₃→(σ₃.take (par.length+loc.length)).length=(par++loc).length∧U₃ C:=fun {σ₃ w s₃ B₃ U₃} D₃=>by
    have l:=D₃.len
    rw [show ((Z.clos (Ar.deeper env) f env C (par++loc)).bu B₃ U₃).ls=(par++loc).map (Loc.loc C)++Z.ls from rfl,List.length_append,List.length_map] at l
    refine ⟨by rw [List.length_take,nv]; exact Nat.min_eq_left (by rw [← l,nv]; exact Nat.le_add_right _ _),?_⟩
    exact D₃.mine 0 (Loc.loc C ((par++loc)[0])) (Nat.lt_of_lt_of_le hpos (Nat.le_add_right _ _)) (by
     show ((par++loc).map (Loc.loc C)++Z.ls)[0]?=_
     rw [List.getElem?_append_left (by rw [List.length_map]; exact hpos),List.getElem?_map,List.getElem?_eq_getElem hpos]; rfl)
   have out:∀ {σ₃:List Slot} {w:Nat→Option Value} {s₃:Shared} {B₃ U₃:Addr→Prop},Dy ((Z.clos (Ar.deeper env) f env C (par++loc)).bu B₃ U₃) σ₃ w s₃→Dy (Z.re (Ar.deeper env) f B₃ fun a=>U₃ a∧a≠C) (σ₃.drop (par.length+loc.length)) (fun i=>w ((par++loc).length+i)) s₃:=fun {σ₃ w s₃ B₃ U₃} D₃ =>
    Dy.outer (τ:=σ₃.take (par.length+loc.length)) (by rw [List.take_append_drop]; exact D₃) (parts D₃).1 (ns_ls D₃ hL) hls he fun _ _ _=>hL
   have fin:∀ {σ₃:List Slot} {w:Nat→Option Value} {s₃:Shared} {B₃ U₃:Addr→Prop},Grown ((Z.clos (Ar.deeper env) f env C (par++loc)).bu (fun a=>B a∧a≠C) fun a=>U a∨a=C) s₂ s₃ B₃ U₃→Dy ((Z.clos (Ar.deeper env) f env C (par++loc)).bu B₃ U₃) σ₃ w s₃→σ₃.drop (par.length+loc.length)=σ'→Q .none s₃:=fun {σ₃ w s₃ B₃ U₃} g D₃ q =>
    h s₃ B₃ _ _ (clos_grown (Z:=Z.re Ar (f+1) B U) D y hC D₂ g) { (q▸out D₃:Dy (Z.re (Ar.deeper env) f B₃ fun a=>U₃ a∧a≠C) σ' _ s₃) with R:=D.R }
   refine onBind e fun k e1 e=>wpAny_execs_cons (wpAny_If (b.t.go V₂.toEv e1 fun s₃ x₃ V₃=>?_))
   have X₃:=V₂.step x₃
   have g₃:Grown ((Z.clos (Ar.deeper env) f env C (par++loc)).bu (fun a=>B a∧a≠C) fun a=>U a∨a=C) s₂ s₃ _ _:=Grown.of x₃.toK X₃.toDy
   cases k with
   | true =>
    refine onMap e fun σ₁ e2 e3=>?_
    refine wpAny_execs_cons ((b.base.ok X₃ (nextOf_is e2)) _ _ fun fl s₄ B₄ U₄ g₄ en=>?_)
    obtain ⟨rfl,w₄,V₄⟩:=en
    exact wpAny_execs_cons (wpAny_Return_none (fin (g₃.trans V₂.toDy g₄) V₄.toDy e3))
   | false =>
    refine onBind e fun σ₁ e2 e=>wpAny_execs_nil ?_
    rw [execs_append]
    refine wpAny_bind ((b.rest.ok X₃ (nextOf_is e2)) _ _ fun fl s₄ B₄ U₄ g₄ en=>?_)
    obtain ⟨rfl,w₄,V₄⟩:=en
    have G₄:=g₃.trans V₂.toDy g₄
    cases hb:noOwn (σ₁.take (par.length+loc.length))&&isTag σ₁ b.i1 0 with
    | false=>rw [hb] at e; exact no e
    | true =>
     rw [hb] at e
     obtain ⟨n1,t1⟩:=both hb
     refine onBind e fun p e3 e=>onBind e fun σ₂ e4 e=>?_
     cases t2:isTag (σ₁.take (par.length+loc.length)++σ₂) b.i2 0 with
     | false=>rw [t2] at e; exact no e
     | true =>
      rw [t2] at e
      refine onBind e fun q e5 e6=>?_
      have hin:interactive env=false:=by unfold interactive; rw [EO'.kind]; rfl
      have notF:∀ {s₃:Shared} {B₃ U₃:Addr→Prop},Grown ((Z.clos (Ar.deeper env) f env C (par++loc)).bu (fun a=>B a∧a≠C) fun a=>U a∨a=C) s₂ s₃ B₃ U₃→¬ U₃ F:=fun g u=>(g.hU F u).elim (fun u=>u.elim hU hFC) fun n=>none_at n.2 (st₂.obj.imp fun _ q=>q.1)
      have st₄:FnStands Z.X s₄.heap F fd:=st₂.dy (Z:=(Z.clos (Ar.deeper env) f env C (par++loc)).bu (fun a=>B a∧a≠C) fun a=>U a∨a=C) V₂.toDy (fun u=>u.elim hU hFC) G₄.x
      refine wpAny_execs_cons ?_
      rw [exec_Expr env _ _ hin (by rfl)]
      refine wpAny_bind (wpAny_standAt (wpAny_bind (call_is (Z:=(Z.clos (Ar.deeper env) f env C (par++loc)).bu B₄ U₄) V₄.toEv hv1 t1 hx st₄ e3 fun vs₅ s₅ x₅ V₅ st₅ rl₅=>?_)))
      refine ih (out V₅.toDy) st₅ (fun u=>notF G₄ u.1) rl₅ e4 fun s₆ B₆ U₆ w₆ g₆ D₆=>wpAny_dropValue ?_
      have p5:=parts V₅.toDy
      have J:=Dy.join (τ:=σ₁.take (par.length+loc.length)) (by rw [List.take_append_drop]; exact V₅.toDy) p5.1 (noOwn_is n1) he hal p5.2 g₆ D₆
      have G₆:=G₄.trans V₂.toDy ((Grown.of x₅.toK V₅.toDy).trans V₄.toDy (join_grown V₅.toDy p5.2 g₆ (J.live C (.inr rfl))))
      have V₆:=clos_ex K.blank hP hnm EO' J
      refine wpAny_execs_cons ?_
      rw [exec_Expr env _ _ hin (by rfl)]
      refine wpAny_bind (wpAny_standAt (wpAny_bind (call_is (Z:=(Z.clos (Ar.deeper env) f env C (par++loc)).bu B₆ fun a=>U₆ a∨a=C) V₆.toEv hv2 t2 hx (st₂.dy (Z:=(Z.clos (Ar.deeper env) f env C (par++loc)).bu (fun a=>B a∧a≠C) fun a=>U a∨a=C) V₂.toDy (fun u=>u.elim hU hFC) G₆.x) e5 fun vs₇ s₇ x₇ V₇ st₇ rl₇=>?_)))
      have O₇:=Dy.outer (τ:=σ₁.take (par.length+loc.length)) V₇.toDy p5.1 (ns_ls V₇.toDy hL) hls he fun _ _ _=>hL
      refine ih O₇ st₇ (fun u=>notF G₆ u.1) rl₇ e6 fun s₈ B₈ U₈ w₈ g₈ D₈=>wpAny_dropValue ?_
      have J₈:=Dy.join (τ:=σ₁.take (par.length+loc.length)) V₇.toDy p5.1 (noOwn_is n1) he hal (.inr rfl) g₈ D₈
      have G₈:=G₆.trans V₂.toDy ((Grown.of x₇.toK V₇.toDy).trans V₆.toDy (join_grown V₇.toDy (.inr rfl) g₈ (J₈.live C (.inr rfl))))
      exact wpAny_execs_nil (fin G₈ J₈ (List.drop_left' (p5.1.trans nv)))
end
end
end Mine
end
section
open PySem PySem.W PyProof.Rows
namespace Mine
theorem Dy.noU {Z:Fr} {Ar:Around} {d:Nat} {B U:Addr→Prop} {σ:List Slot} {ws:Nat→Option Value} {s:Shared} (D:Dy (Z.re Ar d B U) σ ws s) (hw:Z.wr=0) (no:NoOwn σ):Dy (Z.re Ar d B fun _=>False) σ ws s :=
 {K:=D.K,R:=D.R,g:=D.g,fresh:=D.fresh,sub:=D.sub,dis:=fun _ u=>u.elim,turn:=fun _ u=>u.elim,len:=D.len,pl:=D.pl,hi:=D.hi,ok:=D.ok,mine:=fun i l h=>absurd (show i < 0 from hw▸h) (Nat.not_lt_zero i),ownU:=fun i xs a _ e=>absurd e (no i xs),apart:=D.apart,nsl:=D.nsl,once:=D.once }
structure CloE (sc:SC) where
 t:SB sc
 base:SE sc
 rp:Pos
 ip:Pos
 rest:SL sc
 a1:List (SE sc)
 a2:List (SE sc)
 sh:SE sc
 i1:Nat
 i2:Nat
 y1:Str
 y2:Str
 q1:Pos
 q2:Pos
 q3:Pos
 q4:Pos
 q5:Pos
 q6:Pos
 q7:Pos
 h:(isVar sc i1 y1&&isVar sc i2 y2)=true
section
variable {sc:SC}
noncomputable def CloE.last (b:CloE sc):Expr:=.BinOp (.BinOp (.Call (.Name b.y1 b.q1) (exprs b.a1) [] b.q2) .LShift b.sh.e b.q3) .Add (.Call (.Name b.y2 b.q4) (exprs b.a2) [] b.q5) b.q6
noncomputable def CloE.sts (b:CloE sc):List Stmt:=.If b.t.e [.Return (some b.base.e) b.rp] [] b.ip::(b.rest.sts++[.Return (some b.last) b.q7])
noncomputable def bareO (o:Option PV):Option PV:=o.bind fun p=>bif bareP p then some p else none
theorem bareO_is {o:Option PV} {p:PV} (e:bareO o=some p):o=some p∧bareP p=true:=onBind e fun q e1 e2=>by
 cases h:bareP q with
 | false=>rw [h] at e2; exact no e2
 | true=>rw [h] at e2; exact Option.some.inj e2▸⟨e1,h⟩
noncomputable def cloVal (b:CloE sc) (np nl:Nat) (Φ:Fns) (f:Nat):List PV→List Slot→Option PV :=
 Nat.rec (motive:=fun _=>List PV→List Slot→Option PV) (fun _ _=>none) (fun _ r ps σ=>bif Nat.beq ps.length np then (fun σ₀=>(b.t.ev Φ σ₀).bind fun k=>bif k then bareO (b.base.ev Φ σ₀) else
  (nextOf (b.rest.ex Φ σ₀)).bind fun σ₁=>bif noOwn (σ₁.drop (np+nl))&&(isTag σ₁ b.i1 0&&isTag σ₁ b.i2 0) then (evL Φ σ₁ b.a1).bind fun p=>(bareO (r p (σ₁.drop (np+nl)))).bind fun v=>(b.sh.ev Φ σ₁).bind fun u=>(lshII.f v u).bind fun w=>(evL Φ σ₁ b.a2).bind fun q=>(bareO (r q (σ₁.drop (np+nl)))).bind fun z=>bareO (addII.f w z) else none)
  (ps.map Slot.val++List.replicate nl .unset++σ) else none) f
section
variable {Z:Fr} {F:Addr} {fd:FuncData} {isc:Scope} {par loc:List Str}
theorem clo_val (b:CloE (closSC sc isc (par++loc))) (K:ClosOk fd par loc (.stmts b.sts) isc Z.env) (hfree:∀ x,(x,NameKind.free)∈isc.names→sc.N.lookup x=some .cell∨sc.N.lookup x=some .free) (EO:EnvOk Z.env sc Z.ls) (hnm:Z.X.nm=sc.nm) (hP:∀ Ar d,Room Ar d→Pf Z.X Z.Φ Ar d)
  (hal:Z.ls.length≤Z.ow) (hw:Z.wr=0) (hx:Z.fx 0=.ref F):∀ (f:Nat) {Ar:Around} {B:Addr→Prop} {σ:List Slot} {ws:Nat→Option Value} {s:Shared} {ps:List PV} {r:PV} {vs:List Value} {Q:Value→Shared→Prop} {E:Value→Shared→Prop},
  Dy (Z.re Ar f B fun _=>False) σ ws s→FnStands Z.X s.heap F fd→Mine.RepL s.heap B ps vs→cloVal b par.length loc.length Z.Φ f ps σ=some r→bareP r=true→(∀ v s',Stp Z.X Z.X.V s s'→(∀ h B,Mine.Rep h B r v)→Q v s')→wpAny Z.X.M Ar (call (.ref F) vs) Q E s:=by
 intro f
 induction f with
 | zero=>intro _ _ _ _ _ _ _ _ _ _ _ _ _ e; exact no e
 | succ f ih =>
  intro Ar B σ ws s ps r vs Q E D st rl e hr h
  obtain ⟨hv1,hv2⟩:=both b.h
  have e:(bif Nat.beq ps.length par.length then _ else _)=some r:=e
  cases hl:Nat.beq ps.length par.length with
  | false=>rw [hl] at e; exact no e
  | true =>
   rw [hl] at e
   obtain ⟨o,ho,hod⟩:=st.obj
   refine clos_call (Z:=Z.re Ar (f+1) B fun _=>False) ⟨⟨D,hP _ _ D.R,EO,hnm⟩,hal⟩ rfl ho hod st.codeRec K hfree rl (Nat.eq_of_beq_eq_true hl) fun env C ws₂ s₂ he EO' y hC D₂ E'=>?_
   have V₂:Ex ((Z.clos (Ar.deeper env) f env C (par++loc)).bu (fun a=>B a∧a≠C) fun a=>False∨a=C) (closSC sc isc (par++loc)) _ ws₂ s₂:=clos_ex K.blank hP hnm EO' D₂
   have hls:=(D.notL hC.1).1
   have nv:(par++loc).length=par.length+loc.length:=List.length_append
   have hFC:F≠C:=fun q=>none_at (q▸hC.1) ⟨o,ho⟩
   have y':Stp Z.X Z.X.V s s₂:=y.weak fun a v=>⟨v,fun u=>u⟩
   have fin:∀ {v:Value} {s₃:Shared} {B₃ U₃:Addr→Prop},Grown ((Z.clos (Ar.deeper env) f env C (par++loc)).bu (fun a=>B a∧a≠C) fun a=>False∨a=C) s₂ s₃ B₃ U₃→(∀ h B,Mine.Rep h B r v)→Q v s₃:=fun g q =>
    h _ _ (y'.on g.x (fun a o v e=>⟨v,fun u=>u.elim id fun q=>none_at (q▸hC.1) ⟨o,e⟩⟩) y'.size) q
   refine onBind e fun k e1 e=>wpAny_execs_cons (wpAny_If (b.t.go V₂.toEv e1 fun s₃ x₃ V₃=>?_))
   have X₃:=V₂.step x₃
   have g₃:Grown ((Z.clos (Ar.deeper env) f env C (par++loc)).bu (fun a=>B a∧a≠C) fun a=>False∨a=C) s₂ s₃ _ _:=Grown.of x₃.toK X₃.toDy
   cases k with
   | true =>
    obtain ⟨e2,_⟩:=bareO_is e
    exact wpAny_execs_cons (wpAny_Return_some (b.base.go (Z:=(Z.clos (Ar.deeper env) f env C (par++loc)).bu (fun a=>B a∧a≠C) fun a=>False∨a=C) V₃ e2 fun v s₄ x₄ V₄ r₄=>fin (g₃.trans V₂.toDy (Grown.of x₄.toK V₄.toDy)) fun h B=>bare_rep hr r₄))
   | false =>
    refine onBind e fun σ₁ e2 e=>wpAny_execs_nil ?_
    rw [execs_append]
    refine wpAny_bind ((b.rest.ok X₃ (nextOf_is e2)) _ _ fun fl s₄ B₄ U₄ g₄ en=>?_)
    obtain ⟨rfl,w₄,V₄⟩:=en
    have G₄:=g₃.trans V₂.toDy g₄
    cases hb:noOwn (σ₁.drop (par.length+loc.length))&&(isTag σ₁ b.i1 0&&isTag σ₁ b.i2 0) with
    | false=>rw [hb] at e; exact no e
    | true =>
     rw [hb] at e
     obtain ⟨n1,t⟩:=both hb
     obtain ⟨t1,t2⟩:=both t
     refine onBind e fun p e3 e=>onBind e fun v e4 e=>onBind e fun u e5 e=>onBind e fun w e6 e=>onBind e fun q e7 e=>onBind e fun z e8 e9=>?_
     have hns:∀ {s₅:Shared},Stp Z.X Z.X.V s₄ s₅→Z.X.N≤Z.env.locals∧∃ m,s₅.heap.Ns Z.env.locals m:=fun x=>⟨D.nsl.1,D.nsl.2.imp fun m q=>q.at' fun o e=>x.off _ o (.inl D.nsl.1) (G₄.x.off _ o ⟨.inl D.nsl.1,fun u=>u.elim id fun q=>none_at hC.1 ⟨o,q▸e⟩⟩ (y'.off _ o (.inl D.nsl.1) e))⟩
     have out:∀ {s₅:Shared},Stp Z.X Z.X.V s₄ s₅→Ev ((Z.clos (Ar.deeper env) f env C (par++loc)).bu B₄ U₄) (closSC sc isc (par++loc)) σ₁ w₄ s₅→Dy (Z.re (Ar.deeper env) f B₄ fun _=>False) (σ₁.drop (par.length+loc.length)) (fun i=>w₄ ((par++loc).length+i)) s₅:=fun x₅ V₅=>by
      have l:=V₅.len
      rw [show ((Z.clos (Ar.deeper env) f env C (par++loc)).bu B₄ U₄).ls=(par++loc).map (Loc.loc C)++Z.ls from rfl,List.length_append,List.length_map] at l
      exact Dy.noU (Dy.outer (τ:=σ₁.take (par.length+loc.length)) (by rw [List.take_append_drop]; exact V₅.toDy) (by rw [List.length_take,nv]; exact Nat.min_eq_left (by rw [← l,nv]; exact Nat.le_add_right _ _)) (hns x₅) hls he fun i c e=>absurd e (noOwn_is n1 i c)) hw (noOwn_is n1)
     have st₂:FnStands Z.X s₂.heap F fd:=st.dy (Z:=Z.re Ar (f+1) B fun _=>False) D id y
     have st₄:FnStands Z.X s₄.heap F fd:=st₂.dy (Z:=(Z.clos (Ar.deeper env) f env C (par++loc)).bu (fun a=>B a∧a≠C) fun a=>False∨a=C) V₂.toDy (fun u=>u.elim id hFC) G₄.x
     unfold CloE.last
     refine wpAny_execs_cons (wpAny_Return_some (wpAny_BinOp (wpAny_BinOp (call_is (Z:=(Z.clos (Ar.deeper env) f env C (par++loc)).bu B₄ U₄) V₄.toEv hv1 t1 hx st₄ e3 fun vs₅ s₅ x₅ V₅ st₅ rl₅=>?_))))
     refine ih (out x₅ V₅) st₅ rl₅ (bareO_is e4).1 (bareO_is e4).2 fun v₁ s₆ x₆ rv₁=>?_
     refine b.sh.go (Z:=(Z.clos (Ar.deeper env) f env C (par++loc)).bu B₄ U₄) (V₅.step x₆) e5 fun v₂ s₇ x₇ V₇ r₇=>?_
     refine (lshII.ok V₇.toBs (rv₁ _ _) r₇ e6) _ _ fun v₃ s₈ x₈ r₈=>?_
     have y₈:Stp Z.X Z.X.V s₄ s₈:=x₅.trans (x₆.trans (x₇.trans x₈))
     refine call_is (Z:=(Z.clos (Ar.deeper env) f env C (par++loc)).bu B₄ U₄) (V₇.step x₈) hv2 t2 hx (st₄.stp y₈) e7 fun vs₉ s₉ x₉ V₉ st₉ rl₉=>?_
     refine ih (out (y₈.trans x₉) V₉) st₉ rl₉ (bareO_is e8).1 (bareO_is e8).2 fun v₄ s₁ x₁ rv₄=>?_
     have V₁:=V₉.step x₁
     refine (addII.ok V₁.toBs ((Fr.Rep.stp r₈ V₉.sub x₉).stp V₉.sub x₁) (rv₄ _ _) (bareO_is e9).1) _ _ fun v₅ s₀ x₀ r₀=>?_
     exact fin (G₄.trans V₂.toDy (Grown.of (Z:=(Z.clos (Ar.deeper env) f env C (par++loc)).bu B₄ U₄) (Stp.toK (Z:=(Z.clos (Ar.deeper env) f env C (par++loc)).bu B₄ U₄) (y₈.trans (x₉.trans (x₁.trans x₀)))) (V₁.step x₀).toDy)) fun h B=>bare_rep hr r₀
end
end
end Mine
end
section
open PySem PySem.W PyProof.Rows
namespace Mine
section
variable {Z:Fr} {s:Shared} {a:Addr} {xs:List PV} {vs:List Value} {n:Nat} {c:Int} {u:Tok}
theorem mul_raw (ha:s.heap.get? a=some (lstO vs n)) (ra:Z.RepL s.heap xs vs) (h1:few c=true) (h2:fits (xs.length * c.toNat)=true) {Q:Value→Shared→Prop} {E:Value→Shared→Prop} (h:Q (.ref s.heap.objs.size) { s with heap:=s.heap.push (lstO (List.replicate c.toNat vs).flatten 0),toks:=s.toks }) :
  wpAny Z.X.M Z.Ar (binaryOp .Mult (.ref a) (.int c u)) Q E s :=
 wpAny_binaryOp_repeat_ref (T:="list") (U:="int") (by decide) ⟨_,ha,rfl⟩ (fun s'=>typeIs_int s' c u) noFill_list_mul F.fills_int_mul F.slot_int_rmul repeat_list F.slot_int_index.lookup
  (call_meets F.slot_int_rmul (typeIs_int s c u) F.entry_int_rmul (F.args_int_rmul_2 _ _) (int___rmul___int_list c u a vs.toArray n)
   ⟨ha,rfl,⟨_,ha,rfl⟩,call_meets F.slot_list_mul ⟨_,ha,rfl⟩ F.entry_list_mul (F.args_list_mul_2 _ _)
    (AutoListH.list___mul___list_int_3 a vs.toArray n c u (fitsIdx (few_is h1).1 (few_lt h1)) (by rw [ra.size]; exact Nat.not_lt.mpr (Nat.le_trans (fits_le h2) (by decide)))
     (by rw [ra.size]; exact not_long (fits_le h2)))
    ⟨ha,rep_fold vs c.toNat▸h⟩⟩)
end
section
variable {sc:SC}
noncomputable def SO.rep (x:SE sc) (i:SE sc) (p:Pos):SO sc:=⟨.BinOp x.e .Mult i.e p,fun Φ σ=>(x.ev Φ σ).bind fun q=>q.lst?.bind fun xs=>(i.ev Φ σ).bind fun j=>j.int?.bind fun c=>bif few c&&fits (xs.length * c.toNat) then some (List.replicate c.toNat xs).flatten else none,
 fun {Z σ ws s ys} V e Q E h=>onBind e fun q e1 e=>onBind e fun xs e2 e=>onBind e fun j e3 e=>onBind e fun c e4 e=>by
  cases hc:few c&&fits (xs.length * c.toNat) with
  | false=>rw [hc] at e; exact no e
  | true =>
   rw [hc] at e
   obtain rfl:=Option.some.inj e
   refine wpAny_BinOp (x.go V e1 fun v s₁ x₁ V₁ r₁=>i.go V₁ e3 fun w s₂ x₂ V₂ r₂=>?_)
   obtain ⟨t,rfl⟩:=scI.rd r₂ e4
   refine (r₁.stp V₁.sub x₂).lst e2 (M:=fun v=>wpAny Z.X.M Z.Ar (binaryOp .Mult v (.int c t)) Q E s₂) fun a n vs _ g rl=>mul_raw g rl (both hc).1 (both hc).2 ?_
   have z:s.heap.get? s₂.heap.objs.size=none:=(x₁.trans x₂).live (.inl (V₂.K.size _ V₂.g)) (get_size _)
   exact h _ _ 0 _ ((x₁.trans x₂).trans V₂.toBs.push) z (V₂.K.size _ V₂.g) (Heap.get?_push_size _ rfl) (Mine.RepL.move (fun b o k e=>⟨⟨k,fun z=>none_at (z▸get_size _) ⟨o,e⟩⟩,Heap.get?_push_of_some _ e⟩) (Mine.RepL.rep rl c.toNat))⟩
end
end Mine
end
section
open PySem PySem.W PyProof.Rows
namespace Mine
def MkFn (X:Cx) (code:Value) (name:Str) (params:Arguments) (body:List Stmt) (scope:Scope) (pos:Pos) (qual:Str):Prop :=
 ∀ (Ar:Around) (env:Env) (clos:List (Str × Addr)) (s:Shared) (Q:Value→Shared→Prop) (E:Value→Shared→Prop),X.G s.heap→env.globals=mainGlobals→env.code=code→closureFor scope env=pure clos →
  (∀ F fd s',Stp X X.V s s'→s.heap.objs.size≤F→FnStands X s'.heap F fd→(∃ doc pm cd ctv,fd=fnX name qual params body scope clos .none .none doc pm none cd ctv)→Q (.ref F) s') →
  wpAny X.M Ar (makeFunction name qual params (.stmts body) scope env [] [] [] pos pos.line) Q E s
noncomputable def tagless (σ:List Slot):Bool:=σ.all fun t=>Slot.casesOn (motive:=fun _=>Bool) t true (fun _=>true) (fun _=>true) (fun _=>false) fun _=>true
theorem Dy.fixed {Z:Fr} {σ:List Slot} {ws:Nat→Option Value} {s:Shared} (D:Dy Z σ ws s) (h:tagless σ=true) (fx:Nat→Value):Dy { Z with fx:=fx } σ ws s :=
 {K:=D.K,R:=D.R,g:=D.g,fresh:=D.fresh,sub:=D.sub,dis:=D.dis,turn:=D.turn,len:=D.len,pl:=D.pl,hi:=D.hi,mine:=D.mine,ownU:=D.ownU,apart:=D.apart,nsl:=D.nsl,once:=D.once
  ok:=fun i t e=>by
   have q:=D.ok i t e
   have c:=List.all_eq_true.mp h t (List.mem_of_getElem? e)
   cases t with
   | unset=>trivial
   | val p=>exact q
   | own xs=>cases xs <;> exact q
   | fn k=>exact q
   | is k=>exact nomatch c }
section
variable {sc:SC} {Z:Fr} {σ:List Slot} {ws:Nat→Option Value} {s:Shared} {Q:Flow→Shared→Prop} {E:Value→Shared→Prop}
theorem nest_def {t:Tg} {ip:Arguments} {ib:List Stmt} {isc:Scope} {ipos:Pos} {qual:Str} {code:Value} (V:Ex Z sc σ ws s) (ht:tagless σ=true) (h:t.ok sc=true) (hs:scopeOk sc isc=true) (hd:ip.defaults=[]) (hk:ip.kw_defaults=[]) (ha:annTrees ip none Z.env=[])
  (hq:qualnameIn Z.env t.x t.x=qual) (hc:Z.env.code=code) (mk:MkFn Z.X code t.x ip ib isc ipos qual)
  (k:∀ F fd ws' s',Stp Z.X Z.K s s'→FnStands Z.X s'.heap F fd→¬ Z.U F→(∃ doc pm cd ctv,fd=fnX t.x qual ip ib isc (handed isc.names Z.env) .none .none doc pm none cd ctv)→Ex { Z with fx:=fun _=>.ref F } sc (σ.set t.i (.is 0)) ws' s'→Q .next s') :
  wpAny Z.X.M Z.Ar (exec (.FunctionDef t.x ip ib [] none [] isc none t.x ipos) Z.env) Q E s:=by
 refine nestDef_K hd hk ha ?_
 rw [hq]
 refine mk Z.Ar Z.env _ s _ _ V.g V.EO.glob hc (closure_ok V.EO (scopeOk_is hs)) fun F fd s₁ x₁ hF st hfd=>?_
 have hF:=get_ge hF
 have D₁:=(V.toDy.step x₁).fixed ht fun _=>.ref F
 refine store (Z:={ Z with fx:=fun _=>.ref F }) D₁ V.EO (t:=.is 0) h (V.to _ _ h) rfl (fun _ z=>nomatch z) fun s₂ x₂ D₂=>?_
 have nU:=V.notU hF
 exact k F fd _ s₂ (x₁.toK.trans x₂) (st.dy (V.toDy.step x₁) nU x₂) nU hfd ⟨⟨⟨D₂,V.P,V.EO,V.nm⟩,V.al⟩,V.to⟩
end
end Mine
end
section
open PySem PySem.W PyProof.Rows
namespace Mine
section
variable {sc:SC}
structure Nest (sc:SC) (ib:List Stmt) where
 t:Tg
 ip:Arguments
 isc:Scope
 ipos:Pos
noncomputable def Nest.st {ib:List Stmt} (n:Nest sc ib):Stmt:=.FunctionDef n.t.x n.ip ib [] none [] n.isc none n.t.x n.ipos
structure NestOk {ib:List Stmt} (n:Nest sc ib) (par loc:List Str):Prop where
 tok:n.t.ok sc=true
 cell:sc.N.lookup n.t.x=some .cell
 sok:scopeOk sc n.isc=true
 dflt:n.ip.defaults=[]
 kwd:n.ip.kw_defaults=[]
 ann:∀ env,annTrees n.ip none env=[]
 co:n.isc.isCoroutine=false
 gen:n.isc.isGenerator=false
 nodup:(par++loc).Nodup
 locs:∀ x∈par++loc,n.isc.names.lookup x=some .local
 nocell:∀ x k,(x,k)∈n.isc.names→k≠NameKind.cell
 blank:n.isc.names.lookup ("":Str)=none
 pos:0 < (par++loc).length
 bind:∀ qual clos doc pm cd ctv (vs:List Value),vs.length=par.length→bindArgs (fnX n.t.x qual n.ip ib n.isc clos .none .none doc pm none cd ctv) ⟨vs,[]⟩=pure (par.zip vs)
theorem NestOk.clos {ib:List Stmt} {n:Nest sc ib} {par loc:List Str} (N:NestOk n par loc) {env:Env} {ls:List Loc} (EO:EnvOk env sc ls) {qual:Str} {doc pm cd ctv:Value}:ClosOk (fnX n.t.x qual n.ip ib n.isc (handed n.isc.names env) .none .none doc pm none cd ctv) par loc (.stmts ib) n.isc env :=
 have S:=scopeOk_is N.sok
 ⟨rfl,S.kind,N.co,N.gen,rfl,rfl,rfl,fun x m=>handed_lookup EO S m,N.nodup,N.locs,N.nocell,N.blank,N.bind _ _ _ _ _ _⟩
end
end Mine
end
section
open PySem PySem.W PyProof.Rows
namespace Mine
structure DefS (sc:SC) (par loc:List Str) where
 first:SS sc
 isc:Scope
 b:CloS (closSC sc isc (par++loc))
 t:Tg
 ip:Arguments
 ipos:Pos
 tst:SB sc
 i:Nat
 y:Str
 as:List (SE sc)
 p1:Pos
 p2:Pos
 p3:Pos
 p4:Pos
 last:SL sc
 h:isVar sc i y=true
section
variable {sc:SC} {par loc:List Str}
noncomputable def DefS.nest (x:DefS sc par loc):Nest sc x.b.sts:=⟨x.t,x.ip,x.isc,x.ipos⟩
noncomputable def DefS.sts (x:DefS sc par loc):List Stmt:=x.first.st::x.nest.st::.If x.tst.e [callSt x.y x.p1 x.p2 x.p3 x.as] [] x.p4::x.last.sts
noncomputable def DefS.ex (x:DefS sc par loc) (f:Nat) (Φ:Fns) (σ:List Slot):Option Out:=(nextOf (x.first.ex Φ σ)).bind fun σ₁=>bif tagless σ₁ then (fun σ₂=>(x.tst.ev Φ σ₂).bind fun k=>(bif k then bif isTag σ₂ x.i 0 then (evL Φ σ₂ x.as).bind fun p=>cloGo x.b par.length loc.length Φ f p σ₂ else none else some σ₂).bind (x.last.ex Φ)) (σ₁.set x.t.i (.is 0)) else none
theorem DefS.run (x:DefS sc par loc) {f:Nat} (N:NestOk x.nest par loc) {Z:Fr} {σ:List Slot} {ws:Nat→Option Value} {s:Shared} {o:Out} {code:Value} {qual:Str} (V:Ex Z sc σ ws s) (hP:∀ Ar d,Room Ar d→Pf Z.X Z.Φ Ar d) (hf:f≤Z.d) (hL:∃ y,Loc.loc Z.env.locals y∈Z.ls) (hq:qualnameIn Z.env x.t.x x.t.x=qual) (hc:Z.env.code=code)
  (mk:MkFn Z.X code x.t.x x.ip x.b.sts x.isc x.ipos qual) (e:x.ex f Z.Φ σ=some o) {E:Value→Shared→Prop} :
  wpAny Z.X.M Z.Ar (execs x.sts Z.env) (fun fl s'=>∃ B U fx,Grown Z s s' B U∧Ends ({ Z with fx:=fx }.bu B U) sc o fl s') E s:=by
 refine onBind e fun σ₁ e1 e=>?_
 cases ht:tagless σ₁ with
 | false=>rw [ht] at e; exact no e
 | true =>
  rw [ht] at e
  refine onBind e fun k e2 e=>onBind e fun σ₃ e3 e4=>?_
  refine wpAny_execs_cons ((x.first.ok V (nextOf_is e1)) _ _ fun fl s₁ B₁ U₁ g₁ en=>?_)
  obtain ⟨rfl,w₁,V₁⟩:=en
  refine wpAny_execs_cons (nest_def (Z:=Z.bu B₁ U₁) (t:=x.t) V₁ ht N.tok N.sok N.dflt N.kwd (N.ann _) hq hc mk fun F fd w₂ s₂ x₂ st nU hfd V₂=>?_)
  obtain ⟨doc,pm,cd,ctv,rfl⟩:=hfd
  have g₂:=g₁.trans V.toDy ((⟨x₂,fun a u=>.inl u,fun a b=>.inl b,fun a o b _=>b,V₂.toDy.live⟩:Grown (Z.bu B₁ U₁) s₁ s₂ B₁ U₁))
  refine wpAny_execs_cons (wpAny_If (x.tst.go (Z:={ Z with fx:=fun _=>.ref F }.bu B₁ U₁) V₂.toEv e2 fun s₃ x₃ V₃=>?_))
  have X₃:=V₂.step x₃
  have g₃:Grown Z s s₃ B₁ U₁:=g₂.trans V.toDy ((⟨x₃.weak fun a k=>k.1,fun a u=>.inl u,fun a b=>.inl b,fun a o b _=>b,X₃.toDy.live⟩:Grown (Z.bu B₁ U₁) s₂ s₃ B₁ U₁))
  have fin:∀ {s₄:Shared} {B U:Addr→Prop} {w:Nat→Option Value},Grown Z s s₄ B U→Ex ({ Z with fx:=fun _=>.ref F }.bu B U) sc σ₃ w s₄→wpAny Z.X.M Z.Ar (execs x.last.sts Z.env) (fun fl s'=>∃ B U fx,Grown Z s s' B U∧Ends ({ Z with fx:=fx }.bu B U) sc o fl s') E s₄:=fun g V₄ =>
   (x.last.ok V₄ e4) _ _ fun fl s₅ B₅ U₅ g₅ en=>⟨B₅,U₅,_,g.trans V.toDy ⟨g₅.x,g₅.hU,g₅.hB,g₅.kB,g₅.al⟩,en⟩
  cases k with
  | false =>
   obtain rfl:=Option.some.inj e3
   exact wpAny_execs_nil (fin g₃ X₃)
  | true =>
   have e3:(bif isTag (σ₁.set x.t.i (.is 0)) x.i 0 then _ else _)=some σ₃:=e3
   cases ti:isTag (σ₁.set x.t.i (.is 0)) x.i 0 with
   | false=>rw [ti] at e3; exact no e3
   | true =>
    rw [ti] at e3
    refine onBind e3 fun p e5 e6=>?_
    have hin:interactive Z.env=false:=by unfold interactive; rw [show Z.env.scope.kind=.function from V.EO.kind]; rfl
    refine wpAny_execs_cons ?_
    rw [exec_Expr Z.env _ _ hin (by rfl)]
    refine wpAny_bind (wpAny_standAt (wpAny_bind (call_is (Z:={ Z with fx:=fun _=>.ref F }.bu B₁ U₁) V₃ x.h ti rfl (st.stp x₃) e5 fun vs s₄ x₄ V₄ st₄ rl=>?_)))
    have S:=scopeOk_is N.sok
    refine clo_ok (Z:={ Z with fx:=fun _=>.ref F }.bu B₁ U₁) x.b (N.clos V.EO) (fun y m=>(S.free y m).2) V.EO V.nm hP hL V.al rfl N.pos f (B:=B₁) (U:=U₁) { V₄.toDy with R:=V.R.less hf } st₄ nU rl e6 fun s₅ B₅ U₅ w₅ g₅ D₅=>?_
    refine wpAny_dropValue (wpAny_execs_nil (fin ?_ ⟨⟨⟨{ D₅ with R:=V.R },V.P,V.EO,V.nm⟩,V.al⟩,V.to⟩))
    exact (g₃.trans V.toDy (⟨x₄.weak fun a k=>k.1,fun a u=>.inl u,fun a b=>.inl b,fun a o b _=>b,V₄.toDy.live⟩:Grown (Z.bu B₁ U₁) s₃ s₄ B₁ U₁)).trans V.toDy ⟨g₅.x,g₅.hU,g₅.hB,g₅.kB,g₅.al⟩
end
end Mine
end
section
open PySem PySem.W PyProof.Rows
namespace Mine
section
variable {nm:Nms} {Z:Fr} {s:Shared} {ps:List PV} {vs:List Value} {r:PV} {a:Addr} {fd:FuncData} {D:Sig} {d f:Nat} {par loc:List Str}
noncomputable def defSEv (D:Sig) (x:DefS (D.sc nm) par loc) (f:Nat) (Φ:Fns) (ps:List PV):Option PV:=bif Nat.beq ps.length D.params.length then (x.ex f Φ (D.slots ps)).bind fun o=>Out.casesOn (motive:=fun _=>Option PV) o (fun _=>some .none) (fun _=>none) some else none
theorem defS_ok {x:DefS (D.sc nm) par loc} (N:NestOk x.nest par loc) (V:Bs Z s) (A:FnAt Z.X a fd) (DO:DefOk fd D x.sts) (hd:Z.d=d+1) (hf:f≤d) (hnm:Z.X.nm=nm) (P:∀ Ar d,Room Ar d→Pf Z.X Z.Φ Ar d) (hl:∃ y∈D.params++D.locals,D.names.lookup y=some .local)
  (mk:MkFn Z.X fd.code x.t.x x.ip x.b.sts x.isc x.ipos (fd.qualname++".<locals>."++x.t.x)) (rl:Z.RepL s.heap ps vs) (e:defSEv D x f Z.Φ ps=some r):Gets Z s r (call (.ref a) vs):=by
 unfold defSEv at e
 cases hl':Nat.beq ps.length D.params.length with
 | false=>rw [hl'] at e; exact no e
 | true =>
  rw [hl'] at e
  refine onBind e fun o e1 e2=>def_run (nm:=nm) V A DO hd rl (Nat.eq_of_beq_eq_true hl') fun env cs C ws s₂ he _ _ hi EO y D₂ E=>?_
  have hC:env.locals=C:=by rw [he]; rfl
  refine wpAny_mono (x.run (f:=f) N (first_ex EO hnm D₂ (P _ _ D₂.R)) P hf (hl.imp fun y q=>?_) (qual:=fd.qualname++".<locals>."++x.t.x) (code:=fd.code) ?_ (by show env.code=_; rw [he]; rfl) mk e1) (fun fl s₃ q=>?_) fun _ _ e=>e
  ·refine List.mem_map.mpr ⟨y,q.1,?_⟩
   unfold locOf
   rw [q.2]
   show Loc.loc C y=Loc.loc env.locals y
   rw [hC]
  ·show qualnameIn env x.t.x x.t.x=_
   unfold qualnameIn
   have:env.kindOf x.t.x=some .cell:=by
    show env.scope.names.lookup x.t.x=_
    rw [EO.names]; exact N.cell
   rw [this,he]
   rfl
  ·obtain ⟨B,U,fx,g,en⟩:=q
   refine ⟨B,U,g,?_⟩
   cases o with
   | next σ=>exact .inl ⟨en.1,(Option.some.inj e2).symm⟩
   | brk σ=>exact no e2
   | ret p =>
    obtain ⟨v,hv,rv⟩:=en
    exact .inr ⟨v,hv,Option.some.inj e2▸rv⟩
end
end Mine
end
section
open PySem PySem.W PyProof.Rows
namespace Mine
structure DefE (sc:SC) (par loc:List Str) where
 isc:Scope
 b:CloE (closSC sc isc (par++loc))
 t:Tg
 ip:Arguments
 ipos:Pos
 tst:SB sc
 els:SE sc
 i:Nat
 y:Str
 as:List (SE sc)
 p1:Pos
 p2:Pos
 p3:Pos
 p4:Pos
 h:isVar sc i y=true
section
variable {sc:SC} {par loc:List Str}
noncomputable def DefE.nest (x:DefE sc par loc):Nest sc x.b.sts:=⟨x.t,x.ip,x.isc,x.ipos⟩
noncomputable def DefE.sts (x:DefE sc par loc):List Stmt:=[x.nest.st,.Return (some (.IfExp x.tst.e (.Call (.Name x.y x.p1) (exprs x.as) [] x.p2) x.els.e x.p3)) x.p4]
noncomputable def DefE.val (x:DefE sc par loc) (f:Nat) (Φ:Fns) (σ:List Slot):Option PV:=bif tagless σ then (fun σ₂=>(x.tst.ev Φ σ₂).bind fun k=>bareO (bif k then bif isTag σ₂ x.i 0&&noOwn σ₂ then (evL Φ σ₂ x.as).bind fun p=>cloVal x.b par.length loc.length Φ f p σ₂ else none else x.els.ev Φ σ₂)) (σ.set x.t.i (.is 0)) else none
theorem DefE.run (x:DefE sc par loc) {f:Nat} (N:NestOk x.nest par loc) {Z:Fr} {σ:List Slot} {ws:Nat→Option Value} {s:Shared} {r:PV} {code:Value} {qual:Str} (V:Ex Z sc σ ws s) (hP:∀ Ar d,Room Ar d→Pf Z.X Z.Φ Ar d) (hf:f≤Z.d) (hq:qualnameIn Z.env x.t.x x.t.x=qual) (hc:Z.env.code=code)
  (mk:MkFn Z.X code x.t.x x.ip x.b.sts x.isc x.ipos qual) (e:x.val f Z.Φ σ=some r) {E:Value→Shared→Prop} :
  wpAny Z.X.M Z.Ar (execs x.sts Z.env) (fun fl s'=>Grown Z s s' Z.B Z.U∧∃ v,fl=.ret v∧∀ h B,Mine.Rep h B r v) E s:=by
 unfold DefE.val at e
 cases ht:tagless σ with
 | false=>rw [ht] at e; exact no e
 | true =>
  rw [ht] at e
  refine onBind e fun k e2 e=>?_
  obtain ⟨e3,hr⟩:=bareO_is e
  refine wpAny_execs_cons (nest_def (t:=x.t) V ht N.tok N.sok N.dflt N.kwd (N.ann _) hq hc mk fun F fd w₂ s₂ x₂ st nU hfd V₂=>?_)
  obtain ⟨doc,pm,cd,ctv,rfl⟩:=hfd
  have g₂:Grown Z s s₂ Z.B Z.U:=⟨x₂,fun a u=>.inl u,fun a b=>.inl b,fun a o b _=>b,V₂.toDy.live⟩
  have fin:∀ {s₃:Shared} {v:Value},Stp Z.X Z.X.V s₂ s₃→(∀ h B,Mine.Rep h B r v)→Grown Z s s₃ Z.B Z.U∧∃ v',Flow.ret v=.ret v'∧∀ h B,Mine.Rep h B r v':=fun y q =>
   ⟨g₂.trans V.toDy ⟨y.weak fun a k=>k.1,fun a u=>.inl u,fun a b=>.inl b,fun a o b _=>b,(V₂.step y).toDy.live⟩,_,rfl,q⟩
  refine wpAny_execs_cons (wpAny_Return_some (wpAny_IfExp (x.tst.go (Z:={ Z with fx:=fun _=>.ref F }) V₂.toEv e2 fun s₃ x₃ V₃=>?_)))
  cases k with
  | false=>exact x.els.go (Z:={ Z with fx:=fun _=>.ref F }) V₃ e3 fun v s₄ x₄ V₄ r₄=>fin (x₃.trans x₄) fun h B=>bare_rep hr r₄
  | true =>
   have e3:(bif isTag (σ.set x.t.i (.is 0)) x.i 0&&noOwn (σ.set x.t.i (.is 0)) then _ else _)=some r:=e3
   cases ti:isTag (σ.set x.t.i (.is 0)) x.i 0&&noOwn (σ.set x.t.i (.is 0)) with
   | false=>rw [ti] at e3; exact no e3
   | true =>
    rw [ti] at e3
    obtain ⟨t1,no⟩:=both ti
    refine onBind e3 fun p e5 e6=>?_
    have S:=scopeOk_is N.sok
    refine call_is (Z:={ Z with fx:=fun _=>.ref F }) V₃ x.h t1 rfl (st.stp x₃) e5 fun vs s₄ x₄ V₄ st₄ rl=>?_
    have D₄:Dy ({ Z with fx:=fun _=>.ref F,wr:=0 }.re Z.Ar f Z.B fun _=>False) (σ.set x.t.i (.is 0)) w₂ s₄ :=
     {K:=V₄.K,R:=V.R.less hf,g:=V₄.g,fresh:=V₄.fresh,sub:=V₄.sub,dis:=fun _ u=>u.elim,turn:=fun _ u=>u.elim,len:=V₄.len,pl:=V₄.pl,hi:=V₄.hi,ok:=V₄.ok,mine:=fun i l h=>absurd h (Nat.not_lt_zero i),ownU:=fun i xs a _ e=>absurd e (noOwn_is no i xs),apart:=V₄.apart,nsl:=V₄.nsl,once:=V₄.once }
    refine clo_val (Z:={ Z with fx:=fun _=>.ref F,wr:=0 }) x.b (N.clos V.EO) (fun y m=>(S.free y m).2) V.EO V.nm hP V.al rfl rfl f D₄ st₄ rl e6 hr fun v s₅ x₅ rv=>?_
    exact fin (x₃.trans (x₄.trans x₅)) rv
end
end Mine
end
section
open PySem PySem.W PyProof.Rows
namespace Mine
section
variable {nm:Nms} {Z:Fr} {s:Shared} {ps:List PV} {vs:List Value} {r:PV} {a:Addr} {fd:FuncData} {D:Sig} {d f:Nat} {par loc:List Str}
noncomputable def defEEv (D:Sig) (x:DefE (D.sc nm) par loc) (f:Nat) (Φ:Fns) (ps:List PV):Option PV:=bif Nat.beq ps.length D.params.length then x.val f Φ (D.slots ps) else none
theorem defE_ok {x:DefE (D.sc nm) par loc} (N:NestOk x.nest par loc) (V:Bs Z s) (A:FnAt Z.X a fd) (DO:DefOk fd D x.sts) (hd:Z.d=d+1) (hf:f≤d) (hnm:Z.X.nm=nm) (P:∀ Ar d,Room Ar d→Pf Z.X Z.Φ Ar d)
  (mk:MkFn Z.X fd.code x.t.x x.ip x.b.sts x.isc x.ipos (fd.qualname++".<locals>."++x.t.x)) (rl:Z.RepL s.heap ps vs) (e:defEEv D x f Z.Φ ps=some r):Gets Z s r (call (.ref a) vs):=by
 unfold defEEv at e
 cases hl':Nat.beq ps.length D.params.length with
 | false=>rw [hl'] at e; exact no e
 | true =>
  rw [hl'] at e
  refine def_run (nm:=nm) V A DO hd rl (Nat.eq_of_beq_eq_true hl') fun env cs C ws s₂ he _ _ hi EO y D₂ E=>?_
  have hC:env.locals=C:=by rw [he]; rfl
  refine wpAny_mono (x.run (f:=f) N (first_ex EO hnm D₂ (P _ _ D₂.R)) P hf (qual:=fd.qualname++".<locals>."++x.t.x) (code:=fd.code) ?_ (by show env.code=_; rw [he]; rfl) mk e) (fun fl s₃ q=>?_) fun _ _ e=>e
  ·show qualnameIn env x.t.x x.t.x=_
   unfold qualnameIn
   have:env.kindOf x.t.x=some .cell:=by
    show env.scope.names.lookup x.t.x=_
    rw [EO.names]; exact N.cell
   rw [this,he]
   rfl
  ·obtain ⟨g,v,hv,rv⟩:=q
   exact ⟨_,_,g,.inr ⟨v,hv,rv _ _⟩⟩
end
end Mine
end
section
open PySem PySem.W PyProof.Rows PySem.Calls Builtin Builtin.ObjectAttr
namespace Mine
section
variable {prog:Program} {w:World} {A:Around} {s:Shared} {K:Frag} {C x dx:Addr} {R:Result→Shared→Prop}
theorem put_new {name:Str} {es:List DictEntry} {n:Nat} {hsh:Int} {key v:Value} (h1:∀ e∈es,e.key.isStr name=false):Obj.putName name hsh key v (dictOf es n)=dictOf (es++[⟨hsh,key,v⟩]) (n+1):=by
 rw [Obj.putName_eq]
 show (match es.toArray.findIdx? (·.key.isStr name) with
  | some i=>(⟨_,_,.dict (es.toArray.modify i fun e=>{ e with val:=v }) n,_⟩:Obj)
  | none=>⟨_,_,.dict (es.toArray.push ⟨hsh,key,v⟩) (n+1),_⟩)=_
 have:es.toArray.findIdx? (·.key.isStr name)=none:=by
  rw [Array.findIdx?_eq_none_iff]
  intro e he
  exact h1 e (by simpa using he)
 rw [this]
 simp
theorem set_new {name:Str} {v:Value} {es:List DictEntry} {n:Nat} {Q:Unit→Shared→Prop} {E:Value→Shared→Prop} (X:K.In s.heap) (hx:s.heap.get? x=some (instObj C dx)) (hd:s.heap.get? dx=some (dictOf es n)) (hs:findIn K (.ref C) "__setattr__"=some (some (.builtin "object.__setattr__")))
  (hp:plainOver K C=true) (ht:takerIn K C name=some none) (hh:(clsIn K C).any (·.hasDict)=true) (h1:∀ e∈es,e.key.isStr name=false) (h2:∀ e∈es,e.refKey=false) (hz:es.length≤900)
  (h:∀ h' tk hsh,h'.get? dx=some (dictOf (es++[⟨hsh,.str name tk,v⟩]) (n+1))→Heap.SameBut dx s.heap h'→Q () { s with heap:=h',toks:=s.toks+1+1 }):wpAny (model prog w) A (setAttr (.ref x) name v) Q E s:=by
 have I:InstAt s.heap x (instObj C dx) C (some (dictOf es n)):=⟨hx,rfl,rfl,hd⟩
 refine set_plain X I hs (osa_open (s:={ s with toks:=s.toks+1 }) X I hp ht fun b=>?_)
 obtain ⟨cd,hc,hd'⟩:=any_some hh
 refine wpAny_bind (wpAny_pure (wpAny_bind (wpAny_bind (wpAny_loadPart hx (wpAny_bind (looks_clsIn X hc _ _ _ _ (fun _ _ e=>e) ?_))))))
 rw [hd']
 refine wpAny_pure (a:=some dx) (wpAny_bind (wpAny_pure (wpAny_bind ?_)))
 unfold nsSet
 refine wpAny_bind (wpAny_bind (wpAny_askSetting (wpAny_pure (wpAny_bind (wpAny_mkText (wpAny_bind (wpAny_loadPart hd ?_)))))))
 dsimp only
 have c:(!es.toArray.any (·.key.isStr name)&&es.toArray.any (·.refKey))=false:=by
  have:es.toArray.any (·.refKey)=false:=by
   rw [← Array.any_toList,List.any_eq_false]
   intro e he
   rw [h2 e he]; decide
  rw [this,Bool.and_false]
 rw [aRefKeyMayBeTheName_at,c]
 have hu:=Heap.get?_update_self (h:=s.heap) (Obj.putName name (PyData.keyHash w.params name) (.str name (s.toks+1)) v) hd (by rw [put_new h1]; rfl)
 rw [put_new h1] at hu
 refine wpAny_updatePart hd ?_
 refine wpAny_bind (wpAny_lookBehind hu (pastItsLine_dict (by rw [List.size_toArray,List.length_append,sizeLine_eq]; simp; omega)) ?_)
 exact wpAny_pure (h _ _ _ hu (Heap.SameBut.update ..))
end
structure WsK (K:Frag) (C fI:Addr):Prop where
 makes:makesIn K C=true
 ini:findIn K (.ref C) "__init__"=some (some (.ref fI))
 iniT:typeIn K (.ref fI)=some (.type "function")
 sa:findIn K (.ref C) "__setattr__"=some (some (.builtin "object.__setattr__"))
 po:plainOver K C=true
 no:∀ x∈fieldNames,findIn K (.ref C) x=some none
 hd:(clsIn K C).any (·.hasDict)=true
 ga:findIn K (.ref C) "__getattribute__"=some (some (.builtin "object.__getattribute__"))
 gk:findIn K (.ref C) "__getattr__"=some none
 rd:readsIn K C (.type "type")=true
 cS:∃ t,findCls K (.ref C) (.type "type") "S"=some (.val (.str " " t))
 cT:∃ t,findCls K (.ref C) (.type "type") "T"=some (.val (.str "\t" t))
theorem lookIn_dict {es:List DictEntry} {n:Nat} {x:Str} {v:Value} (h:nsFind es.toArray x=some v):lookIn x (dictOf es n)=some (some v):=by
 unfold nsFind findBy at h
 unfold lookIn
 dsimp only
 rw [← Array.find?_toList] at h
 obtain ⟨e,h1,h2⟩:=Option.map_eq_some_iff.mp h
 rw [h1]; show some (some e.val)=_; rw [h2]
theorem find_field {K:Frag} {C fI:Addr} (W:WsK K C fI) {es:List DictEntry} {n:Nat} {x:Str} {v:Value} (hx:x∈fieldNames) (h:nsFind es.toArray x=some v):findObj K C (some (dictOf es n)) x=some (.value v):=by
 obtain ⟨cd,hc,hd⟩:=any_some W.hd
 unfold findObj
 rw [hc,W.no x hx]
 simp only [Option.bind_some]
 unfold PySem.W.ownOf
 rw [if_pos hd]
 dsimp only
 rw [lookIn_dict h]
 rfl
theorem taker_none {K:Frag} {C fI:Addr} (W:WsK K C fI) {x:Str} (hx:x∈fieldNames):takerIn K C x=some none:=by
 unfold takerIn; rw [W.no x hx]; rfl
theorem attr_get {X:Cx} {Ar:Around} {K:Frag} {C fI I dx:Addr} {s:Shared} {x:Str} {v:Value} {es:List DictEntry} {n:Nat} {expr:Bool} {Q:Value→Shared→Prop} {E:Value→Shared→Prop} (W:WsK K C fI) (XK:K.In s.heap) (hI:s.heap.get? I=some (instObj C dx)) (hd:s.heap.get? dx=some (dictOf es n)) (hx:x∈fieldNames) (hf:nsFind es.toArray x=some v) (hh:handedIn v=true)
  (h:Q v { s with toks:=s.toks+1 }):wpAny X.M Ar (getAttr (.ref I) x expr) Q E s :=
 get_value (ox:=instObj C dx) (od:=some (dictOf es n)) XK ⟨hI,rfl,rfl,hd⟩ W.ga (find_field W hx hf) hh h
end Mine
end
section
open PySem PySem.W PyProof.Rows
namespace Mine
def Keys:List Str→List DictEntry→Prop
 | [],es=>es=[]
 | x::xs,es=>∃ e r tk,es=e::r∧e.key=.str x tk∧Keys xs r
theorem Keys.app {nm:Str} {tk:Tok} {e:DictEntry} (h:e.key=.str nm tk):∀ {xs:List Str} {es:List DictEntry},Keys xs es→Keys (xs++[nm]) (es++[e])
 | [],_,q=>by obtain rfl:=q; exact ⟨e,[],tk,rfl,h,rfl⟩
 | x::xs,_,⟨e',r,tk',q,h',k⟩=>by obtain rfl:=q; exact ⟨e',r++[e],tk',rfl,h',Keys.app h k⟩
theorem Keys.isnt {nm:Str}:∀ {xs:List Str} {es:List DictEntry},Keys xs es→xs.all (fun x=>!(x==nm))=true→∀ e∈es,e.key.isStr nm=false
 | [],_,q,_,e,m=>by obtain rfl:=q; exact nomatch m
 | x::xs,_,⟨e',r,tk,q,h,k⟩,hn,e,m=>by
  obtain rfl:=q
  rcases List.mem_cons.mp m with rfl | m
  ·rw [h]
   exact not_eq (both (show (!(x==nm)&&xs.all fun x=>!(x==nm))=true from hn)).1
  ·exact k.isnt (both hn).2 e m
theorem Keys.plain:∀ {xs:List Str} {es:List DictEntry},Keys xs es→∀ e∈es,e.refKey=false
 | [],_,q,e,m=>by obtain rfl:=q; exact nomatch m
 | x::xs,_,⟨e',r,tk,q,h,k⟩,e,m=>by
  obtain rfl:=q
  rcases List.mem_cons.mp m with rfl | m
  ·unfold DictEntry.refKey; rw [h]
  ·exact k.plain e m
theorem Keys.len:∀ {xs:List Str} {es:List DictEntry},Keys xs es→es.length=xs.length
 | [],_,q=>by obtain rfl:=q; rfl
 | x::xs,_,⟨e',r,tk,q,h,k⟩=>by obtain rfl:=q; exact congrArg (·+1) k.len
theorem Keys.none {y:Str}:∀ {xs:List Str} {es:List DictEntry},Keys xs es→y ∉ xs→es.find? (·.key.isStr y)=none
 | [],_,q,_=>by obtain rfl:=q; rfl
 | x::xs,_,⟨e',r,tk,q,h,k⟩,hn=>by
  obtain rfl:=q
  rw [List.find?_cons_of_neg,k.none fun m=>hn (List.mem_cons_of_mem _ m)]
  rw [h]
  show ¬ (x==y)=true
  exact fun z=>hn (eq_of_beq z▸List.mem_cons_self)
theorem Keys.first {x:Str} {xs:List Str} {es:List DictEntry} (k:Keys (x::xs) es):∃ e r,es=e::r∧nsFind es.toArray x=some e.val:=by
 obtain ⟨e,r,tk,rfl,h,_⟩:=k
 refine ⟨e,r,rfl,?_⟩
 unfold nsFind findBy
 rw [List.find?_toArray,List.find?_cons_of_pos]
 ·rfl
 ·rw [h]; exact beq_self_eq_true x
theorem nsFind_skip {e:DictEntry} {r:List DictEntry} {x y:Str} {tk:Tok} (h:e.key=.str x tk) (n:(x==y)=false):nsFind (e::r).toArray y=nsFind r.toArray y:=by
 unfold nsFind findBy
 rw [List.find?_toArray,List.find?_cons_of_neg,List.find?_toArray]
 rw [h]
 show ¬ (x==y)=true
 rw [n]; decide
theorem Keys.all:∀ {xs:List Str} {es:List DictEntry},Keys xs es→xs.Nodup→xs.map (nsFind es.toArray)=(es.map (·.val)).map some
 | [],_,q,_=>by obtain rfl:=q; rfl
 | x::xs,_,k,hn=>by
  obtain ⟨e',r',q',f⟩:=k.first
  obtain ⟨e,r,tk,rfl,h,k⟩:=k
  obtain rfl:=(List.cons.inj q').1
  rw [List.map_cons,f,List.map_cons,List.map_cons,← k.all (List.nodup_cons.mp hn).2]
  refine congrArg _ (List.map_congr_left fun y m=>nsFind_skip h ?_)
  exact beq_eq_false_iff_ne.mpr fun q=>(List.nodup_cons.mp hn).1 (q▸m)
structure Inst (Z:Fr) (C I dx:Addr) (s:Shared) (xs:List Str) (ps:List PV):Prop where
 nI:Z.X.N≤I
 nd:Z.X.N≤dx
 bI:¬ Z.B I
 bd:¬ Z.B dx
 uI:¬ Z.U I
 ud:¬ Z.U dx
 ll:∀ l∈Z.ls,l.addr≠dx
 le:Z.env.locals≠dx
 obj:s.heap.get? I=some (instObj C dx)
 es:∃ es n,s.heap.get? dx=some (dictOf es n)∧Keys xs es∧Z.RepL s.heap ps (es.map (·.val))
section
variable {sc:SC} {Z:Fr} {σ:List Slot} {ws:Nat→Option Value} {s s':Shared} {C I dx fI:Addr} {xs:List Str} {ps:List PV} {B U:Addr→Prop} {K:Frag}
theorem Inst.ne (i:Inst Z C I dx s xs ps):I≠dx:=fun q=>by
 obtain ⟨es,n,h,_⟩:=i.es
 rw [← q,i.obj] at h
 exact nomatch h
theorem Inst.grow (i:Inst Z C I dx s xs ps) (D:Dy Z σ ws s) (g:Grown Z s s' B U):Inst (Z.bu B U) C I dx s' xs ps:=by
 obtain ⟨es,n,h,k,r⟩:=i.es
 have no:∀ {a o},s.heap.get? a=some o→¬ Z.B a→¬ Z.U a→¬ B a∧¬ U a:=fun e b u=>⟨fun q=>(g.hB _ q).elim b fun q=>q.elim u fun q=>none_at q.2 ⟨_,e⟩,fun q=>(g.hU _ q).elim u fun q=>none_at q.2 ⟨_,e⟩⟩
 exact ⟨i.nI,i.nd,(no i.obj i.bI i.uI).1,(no h i.bd i.ud).1,(no i.obj i.bI i.uI).2,(no h i.bd i.ud).2,i.ll,i.le,g.x.off _ _ ⟨.inl i.nI,i.uI⟩ i.obj,
  es,n,g.x.off _ _ ⟨.inl i.nd,i.ud⟩ h,k,Mine.RepL.move (fun a o b e=>⟨g.kB a o b e,g.x.off a o ⟨D.sub a b,fun u=>D.dis a u b⟩ e⟩) r⟩
structure AS (sc:SC) where
 v:SE sc
 nm:Str
 self:Str
 p0:Pos
 p1:Pos
 pos:Pos
 hv:isVar sc 0 self=true
noncomputable def AS.st (a:AS sc):Stmt:=.Assign [.Attribute (.Name a.self a.p0) a.nm a.p1] a.v.e a.pos
noncomputable def AS.ev (a:AS sc) (Φ:Fns) (σ:List Slot):Option PV:=bif isTag σ 0 0 then a.v.ev Φ σ else none
theorem AS.ok (a:AS sc) {p:PV} (V:Ex Z sc σ ws s) (i:Inst Z C I dx s xs ps) (W:WsK K C fI) (hK:∀ h,Z.X.G h→K.In h) (hfx:Z.fx 0=.ref I) (hnm:a.nm∈fieldNames) (hn:xs.all (fun x=>!(x==a.nm))=true) (hz:xs.length≤900) (e:a.ev Z.Φ σ=some p)
  {Q:Flow→Shared→Prop} {E:Value→Shared→Prop} (h:∀ s',Stp Z.X (fun b=>Z.K b∧b≠dx) s s'→Ex Z sc σ ws s'→Inst Z C I dx s' (xs++[a.nm]) (ps++[p])→Q .next s'):wpAny Z.X.M Z.Ar (exec a.st Z.env) Q E s:=by
 unfold AS.ev at e
 cases ht:isTag σ 0 0 with
 | false=>rw [ht] at e; exact no e
 | true =>
  rw [ht] at e
  refine wpAny_Assign_stores (a.v.go V.toEv e fun v s₁ x₁ V₁ r₁=>?_) (by cases a.v.e <;> rfl) (by cases a.v.e <;> rfl)
  have V₁:=V.step x₁
  have g₀:Grown Z s s₁ Z.B Z.U:=.of x₁.toK V₁.toDy
  have i₁:Inst Z C I dx s₁ xs ps:=i.grow V.toDy g₀
  show wpAny Z.X.M Z.Ar (assign (.Attribute (.Name a.self a.p0) a.nm a.p1) Z.env v) _ _ s₁
  rw [arm_assign_Attribute]
  have hw:ws 0=some (.ref I):=hfx▸V₁.ok 0 _ (isTag_is ht)
  refine wpAny_bind (wpAny_holding (ldv V₁.toEv a.hv hw ?_))
  refine wpAny_bind (wpAny_standAt ?_)
  obtain ⟨es,n,hd,k,rl⟩:=i₁.es
  refine wpAny_bind (wpAny_holding (set_new (hK _ V₁.g) i₁.obj hd W.sa W.po (taker_none W hnm) W.hd (k.isnt hn) k.plain (by rw [k.len]; exact hz) fun h' tk hsh q1 q2=>?_))
  refine wpAny_release ?_
  have kp:∀ b o,b≠dx→s₁.heap.get? b=some o→h'.get? b=some o:=fun b o n e=>q2.extBut b o n e
  have G:Z.X.G s₁.heap→Z.X.G h':=fun g=>V.K.Gk _ _ (fun b=>b=dx) g (fun b q=>q▸⟨i.nd,_,hd,.inl (by simp)⟩) kp
  have D₂:Dy Z σ ws { s₁ with heap:=h',toks:=s₁.toks+1+1 }:=V₁.toDy.to (s':={ s₁ with heap:=h',toks:=s₁.toks+1+1 }) (Y:=fun b=>b=dx) ⟨i.ll,i.le,fun j ys b e1 e2 q=>?_⟩ (G V₁.g) (fun b n e=>V₁.fresh b n ?_) V₁.sub V₁.dis (fun b u=>⟨(V₁.turn b u).1,(V₁.turn b u).2.imp fun o q=>⟨kp b o (fun z=>i.ud (z▸u)) q.1,q.2⟩⟩)
   (fun b o q e=>⟨q,kp b o (fun z=>i.bd (z▸q)) e⟩) (fun b o _ n e=>kp b o n e) fun b u=>u
  ·exact h _ ((x₁.weak fun b k=>k.1.1).on (K':=fun b=>b≠dx) ⟨kp,G,fun _ _ _ e=>e,id,rfl⟩ (fun b o k e=>k.2) x₁.size) (V₁.val D₂) ⟨i.nI,i.nd,i.bI,i.bd,i.uI,i.ud,i.ll,i.le,kp _ _ i₁.ne i₁.obj,_,_,q1,k.app rfl,by
    rw [List.map_append]
    exact RepL.append (RepL.cons (Mine.Rep.move r₁ fun b o q e=>⟨q,kp b o (fun z=>i.bd (z▸q)) e⟩) RepL.nil) (Mine.RepL.move (fun b o q e=>⟨q,kp b o (fun z=>i.bd (z▸q)) e⟩) rl)⟩
  ·exact i.ud (q▸V₁.ownU j ys b (Nat.lt_of_lt_of_le (by rw [V₁.len]; exact (List.getElem?_eq_some_iff.mp e1).1) V₁.al) e1 e2)
  ·cases z:s₁.heap.get? b with
   | none=>rfl
   | some o =>
    by_cases c:b=dx
    ·rw [c] at e; exact none_at e ⟨_,q1⟩
    ·exact none_at e ⟨o,kp b o c z⟩
end
end Mine
end
section
open PySem PySem.W PyProof.Rows
namespace Mine
structure Mk (Z:Fr) (dx:Addr) (s s':Shared) (B U:Addr→Prop):Prop where
 x:Stp Z.X (fun a=>Z.K a∧a≠dx) s s'
 hU:∀ a,U a→Z.U a∨New Z s a
 hB:∀ a,B a→Z.B a∨(Z.U a∨New Z s a)
section
variable {sc:SC} {Z:Fr} {σ σ':List Slot} {ws:Nat→Option Value} {s s' s'':Shared} {C I dx fI:Addr} {xs:List Str} {ps:List PV} {B U B' U':Addr→Prop} {K:Frag}
theorem Mk.back (m:Mk Z dx s s' B U) (h:∃ o,s'.heap.get? dx=some o) {a:Addr} (n:New Z s' a):Z.U a∨New Z s a:=by
 by_cases u:Z.U a
 ·exact .inl u
 ·exact .inr ⟨n.1,m.x.live ⟨⟨.inl n.1,u⟩,fun q=>none_at n.2 (q▸h)⟩ n.2⟩
theorem Mk.grow (m:Mk Z dx s s' B U) (D:∀ a,Z.U a→∃ o,s.heap.get? a=some o) (h:∃ o,s'.heap.get? dx=some o) (g:Grown (Z.bu B U) s' s'' B' U'):Mk Z dx s s'' B' U' :=
 ⟨m.x.on g.x (fun a o k e=>⟨k.1.1,fun u=>(m.hU a u).elim k.1.2 fun n=>none_at n.2 ⟨o,e⟩⟩) m.x.size,fun a u=>(g.hU a u).elim (m.hU a) fun n=>m.back h n,
  fun a b=>(g.hB a b).elim (m.hB a) fun q=>.inr (q.elim (m.hU a) fun n=>m.back h n)⟩
theorem Mk.turn (m:Mk Z dx s s' B U) (y:Stp Z.X (fun b=>(Z.bu B U).K b∧b≠dx) s' s''):Mk Z dx s s'' B U :=
 ⟨m.x.on y (fun a o k e=>⟨⟨k.1.1,fun u=>(m.hU a u).elim k.1.2 fun n=>none_at n.2 ⟨o,e⟩⟩,k.2⟩) m.x.size,m.hU,m.hB⟩
theorem Mk.refl:Mk Z dx s s Z.B Z.U:=⟨.refl,fun _ u=>.inl u,fun _ b=>.inl b⟩
structure Ws (Z:Fr) (sc:SC) (C I dx:Addr) (s₀:Shared) (xs:List Str) (ps:List PV) (σ:List Slot) (B U:Addr→Prop) (ws:Nat→Option Value) (s:Shared):Prop where
 m:Mk Z dx s₀ s B U
 V:Ex (Z.bu B U) sc σ ws s
 i:Inst (Z.bu B U) C I dx s xs ps
theorem Inst.dlive (i:Inst Z C I dx s xs ps):∃ o,s.heap.get? dx=some o:=i.es.elim fun _ q=>q.elim fun _ q=>⟨_,q.1⟩
theorem Ws.go (w:Ws Z sc C I dx s' xs ps σ B U ws s) (D:∀ a,Z.U a→∃ o,s'.heap.get? a=some o) {t:SS sc} (e:nextOf (t.ex Z.Φ σ)=some σ') {Q:Flow→Shared→Prop} {E:Value→Shared→Prop} (h:∀ B U ws s,Ws Z sc C I dx s' xs ps σ' B U ws s→Q .next s):wpAny Z.X.M Z.Ar (exec t.st Z.env) Q E s :=
 t.ok w.V (nextOf_is e) Q E fun f s₁ B₁ U₁ g en=>by
  obtain ⟨rfl,ws₁,V₁⟩:=en
  exact h B₁ U₁ ws₁ s₁ ⟨w.m.grow D w.i.dlive g,V₁,w.i.grow w.V.toDy g⟩
theorem Ws.set (w:Ws Z sc C I dx s' xs ps σ B U ws s) (a:AS sc) (W:WsK K C fI) (hK:∀ h,Z.X.G h→K.In h) (hfx:Z.fx 0=.ref I) {nm:Str} (h1:a.nm=nm) (hnm:nm∈fieldNames) (hn:xs.all (fun x=>!(x==nm))=true) (hz:xs.length≤900) {p:PV} (e:a.ev Z.Φ σ=some p)
  {Q:Flow→Shared→Prop} {E:Value→Shared→Prop} (h:∀ ws s,Ws Z sc C I dx s' (xs++[nm]) (ps++[p]) σ B U ws s→Q .next s):wpAny Z.X.M Z.Ar (exec a.st Z.env) Q E s:=by
 subst h1
 exact a.ok w.V w.i W hK hfx hnm hn hz e fun s₁ x V₁ i₁=>h ws s₁ ⟨w.m.turn x,V₁,i₁⟩
structure WsC (sc:SC) where
 a0:AS sc
 m1:SS sc
 m2:SS sc
 m3:SS sc
 tg:SP sc
 self:Str
 p0:Pos
 p1:Pos
 body:SL sc
 pos:Pos
 a1:AS sc
 a2:AS sc
 a3:AS sc
 a4:AS sc
 hv:isVar sc 0 self=true
 ht:tg.ts.all (Tg.ok sc)=true
noncomputable def WsC.sts (x:WsC sc):List Stmt:=[x.a0.st,x.m1.st,x.m2.st,x.m3.st,.For x.tg.e (.Attribute (.Name x.self x.p0) "raw" x.p1) x.body.sts [] x.pos,x.a1.st,x.a2.st,x.a3.st,x.a4.st]
noncomputable def WsC.ex (x:WsC sc) (Φ:Fns) (σ:List Slot):Option (List PV):=(x.a0.ev Φ σ).bind fun q0=>q0.str?.bind fun y=>(nextOf (x.m1.ex Φ σ)).bind fun σ₁=>(nextOf (x.m2.ex Φ σ₁)).bind fun σ₂=>(nextOf (x.m3.ex Φ σ₂)).bind fun σ₃ =>
 bif isTag σ₃ 0 0 then (nextOf (loopGo x.tg.bind (x.body.ex Φ) (signs y) σ₃)).bind fun σ₄=>(x.a1.ev Φ σ₄).bind fun q1=>(x.a2.ev Φ σ₄).bind fun q2=>(x.a3.ev Φ σ₄).bind fun q3=>(x.a4.ev Φ σ₄).map fun q4=>[q0,q1,q2,q3,q4] else none
theorem WsC.run (x:WsC sc) (hn:[x.a0.nm,x.a1.nm,x.a2.nm,x.a3.nm,x.a4.nm]=fieldNames) (V:Ex Z sc σ ws s) (i:Inst Z C I dx s [] []) (W:WsK K C fI) (hK:∀ h,Z.X.G h→K.In h) (hfx:Z.fx 0=.ref I) (e:x.ex Z.Φ σ=some ps) {E:Value→Shared→Prop} :
  wpAny Z.X.M Z.Ar (execs x.sts Z.env) (fun f s'=>f=.next∧∃ B U,Mk Z dx s s' B U∧Inst (Z.bu B U) C I dx s' fieldNames ps) E s:=by
 refine onBind e fun q0 e0 e=>onBind e fun y ey e=>onBind e fun σ₁ f1 e=>onBind e fun σ₂ f2 e=>onBind e fun σ₃ f3 e=>?_
 cases ht:isTag σ₃ 0 0 with
 | false=>rw [ht] at e; exact no e
 | true =>
  rw [ht] at e
  refine onBind e fun σ₄ f4 e=>onBind e fun q1 e1 e=>onBind e fun q2 e2 e=>onBind e fun q3 e3 e=>onMap e fun q4 e4 e5=>?_
  subst e5
  obtain ⟨n0,hn⟩:=List.cons.inj hn
  obtain ⟨n1,hn⟩:=List.cons.inj hn
  obtain ⟨n2,hn⟩:=List.cons.inj hn
  obtain ⟨n3,hn⟩:=List.cons.inj hn
  obtain ⟨n4,_⟩:=List.cons.inj hn
  have D:=V.toDy.live
  refine wpAny_execs_cons (Ws.set (B:=Z.B) (U:=Z.U) ⟨.refl,V,i⟩ x.a0 W hK hfx n0 (by decide) rfl (by decide) e0 fun ws s w=>?_)
  refine wpAny_execs_cons (w.go D f1 fun B U ws s w=>?_)
  refine wpAny_execs_cons (w.go D f2 fun B U ws s w=>?_)
  refine wpAny_execs_cons (w.go D f3 fun B U ws s w=>?_)
  refine wpAny_execs_cons (for_go (Z:=Z.bu B U) (xs:=signs y) w.V x.ht (fun _=>rfl) (fun Q E h=>?_) (nextOf_is f4) _ _ fun f s₁ B₁ U₁ g en=>?_)
  ·show wpAny Z.X.M Z.Ar (eval (.Attribute (.Name x.self x.p0) "raw" x.p1) Z.env) _ E s
   rw [arm_eval_Attribute,base_plain (fun _ _ _=>rfl)]
   have hw:ws 0=some (.ref I):=hfx▸w.V.ok 0 _ (isTag_is ht)
   obtain ⟨es,n,hd,k,rl⟩:=w.i.es
   obtain ⟨ea,r,rfl,hf⟩:=k.first
   obtain ⟨v,_,hv,rv,_⟩:=rl
   obtain rfl:ea.val=v:=(List.cons.inj hv).1
   obtain ⟨t,ht'⟩:=scS.rd rv ey
   refine wpAny_bind (ldv (Z:=Z.bu B U) w.V.toEv x.hv hw (wpAny_bind (wpAny_standAt (wpAny_bind (wpAny_holding ?_)))))
   refine attr_get W (hK _ w.V.g) w.i.obj hd (by decide) hf (by rw [ht']; rfl) (wpAny_bind (wpAny_letTemporaryGo (wpAny_pure ?_)))
   rw [ht']
   have st:Stp Z.X Z.X.V s { s with toks:=s.toks+1 }:=w.V.toBs.toks
   exact it_str (w.V.step st).toBs (fun a b=>⟨w.V.sub a b,fun u=>w.V.dis a u b⟩) (h.after st)
  obtain ⟨rfl,ws₁,V₁⟩:=en
  have w:Ws Z sc C I dx _ _ _ σ₄ B₁ U₁ ws₁ s₁:=⟨w.m.grow D w.i.dlive g,V₁,w.i.grow w.V.toDy g⟩
  refine wpAny_execs_cons (w.set x.a1 W hK hfx n1 (by decide) rfl (by decide) e1 fun ws s w=>?_)
  refine wpAny_execs_cons (w.set x.a2 W hK hfx n2 (by decide) rfl (by decide) e2 fun ws s w=>?_)
  refine wpAny_execs_cons (w.set x.a3 W hK hfx n3 (by decide) rfl (by decide) e3 fun ws s w=>?_)
  refine wpAny_execs_cons (w.set x.a4 W hK hfx n4 (by decide) rfl (by decide) e4 fun ws s w=>?_)
  exact wpAny_execs_nil ⟨rfl,_,_,w.m,w.i⟩
end
end Mine
end
section
open PySem PySem.W PyProof.Rows PySem.Calls
namespace Mine
theorem room_new1 {u d:Nat} (h:u+(d+1)≤1000):u+1+d≤1000:=by omega
theorem room_new2 {u d:Nat} (h:u+8 * (d+1)+200≤9900):u+1+8 * d+200≤9900:=by omega
theorem under_new {C:Addr} {rest:List Value} {kw:List (Str × Value)} {Ar:Around} {d:Nat} (R:Room Ar (d+1)):Room (Ar.under (.builtin "type.__call__" ⟨.ref C::rest,kw⟩)) d :=
 ⟨R.hh,by
  have e:(Code.builtin "type.__call__" ⟨.ref C::rest,kw⟩).weight=1:=by kernel_rfl
  show Ar.depth+(Code.builtin "type.__call__" ⟨.ref C::rest,kw⟩).weight+d≤1000
  rw [e]; exact room_new1 R.hd,by
  have e:(Code.builtin "type.__call__" ⟨.ref C::rest,kw⟩).cUnits=1:=by kernel_rfl
  show Ar.units+(Code.builtin "type.__call__" ⟨.ref C::rest,kw⟩).cUnits+8 * d+200≤9900
  rw [e]; exact room_new2 R.hu⟩
section
variable {nm:Nms} {Z:Fr} {s:Shared} {ps qs:List PV} {vs:List Value} {r:PV} {fd:FuncData} {D:Sig} {d:Nat} {K:Frag} {C I dx fI:Addr}
theorem Inst.obj_is {B:Addr→Prop} (i:Inst Z C I dx s fieldNames ps) (hI:B I) (hd:B dx) (hB:∀ a,Z.B a→B a):Rep s.heap B (.obj C ps) (.ref I):=by
 obtain ⟨es,n,h,k,rl⟩:=i.es
 rw [rep_obj]
 exact ⟨_,⟨I,dx,es,n,rfl,hI,hd,i.obj,h,⟨k.plain,fun y m=>k.none m⟩,k.all (by decide)⟩,Mine.RepL.move (fun a o b e=>⟨hB a b,e⟩) rl⟩
noncomputable def wsEv (D:Sig) (x:WsC (D.sc nm)) (C:Addr) (Φ:Fns) (ps:List PV):Option PV:=bif Nat.beq (ps.length+1) D.params.length then (x.ex Φ (.is 0::D.slots ps)).map (.obj C) else none
theorem bind_self {Ar:Around} {env:Env} {cs:List (Str × Addr)} {Cf:Addr} {ws:Nat→Option Value} {stmts:List Stmt} {E:Value→Shared→Prop} (DO:DefOk fd D stmts) (EO:EnvOk env (D.sc nm) ((D.params++D.locals).map (locOf D.names cs Cf))) (hfx:Z.fx 0=.ref I)
  (D₁:Dy (Z.first Ar d env D.names cs Cf (D.params++D.locals)) (List.replicate (D.params++D.locals).length .unset) ws s) (hlen:ps.length+1=D.params.length) (rl:(Z.first Ar d env D.names cs Cf (D.params++D.locals)).RepL s.heap ps vs) {Q:PUnit→Shared→Prop}
  (k:∀ ws₂ s₂,Stp Z.X (Z.first Ar d env D.names cs Cf (D.params++D.locals)).K s s₂→Dy (Z.first Ar d env D.names cs Cf (D.params++D.locals)) (.is 0::D.slots ps) ws₂ s₂→Q ⟨⟩ s₂) :
  wpAny Z.X.M Ar (forIn (D.params.zip (.ref I::vs)) (⟨⟩:PUnit) fun (x:Str × Value) (_:PUnit)=>(match x with | (name,v)=>do storeName env name v; pure (ForInStep.yield ⟨⟩):Sem (ForInStep PUnit))) Q E s:=by
 have to:∀ {j x},D.params[j]?=some x→isTo (D.sc nm) j x=true:=fun e=>par_to DO e
 have lt:∀ {j x},D.params[j]?=some x→j < (D.params++D.locals).length:=fun e=>par_lt e
 obtain ⟨y,xs,hp⟩:∃ y xs,D.params=y::xs:=by
  cases h:D.params with
  | nil=>rw [h] at hlen; exact nomatch hlen
  | cons y xs=>exact ⟨y,xs,rfl⟩
 have hz:D.params.zip (.ref I::vs)=(y,.ref I)::xs.zip vs:=by rw [hp]; rfl
 rw [hz,List.forIn_cons]
 refine wpAny_bind (wpAny_bind (store (Z:=Z.first Ar d env D.names cs Cf (D.params++D.locals)) D₁ EO (i:=0) (t:=.is 0) (to (by rw [hp]; rfl)) (lt (x:=y) (by rw [hp]; rfl)) (congrArg some hfx.symm) (fun _ q=>nomatch q) fun s₁ x₁ D₂=>wpAny_pure ?_))
 rw [hp,List.length_cons] at hlen
 have h2:(D.params++D.locals).length=ps.length+D.locals.length+1:=by rw [List.length_append,hp,List.length_cons,← hlen,Nat.add_right_comm]
 rw [h2,List.replicate_succ,List.set_cons_zero] at D₂
 refine bind_params (Z:=Z.first Ar d env D.names cs Cf (D.params++D.locals)) EO xs vs ps 1 _ _ _ _ D₂ (Nat.succ.inj hlen).symm (rl.stpK D₁ x₁) (fun j x e=>?_) fun ws₂ s₂ x₂ D₃=>k ws₂ s₂ (x₁.trans x₂) ?_
 ·have e:D.params[1+j]?=some x:=by rw [hp,Nat.add_comm,List.getElem?_cons_succ]; exact e
  exact ⟨to e,lt e⟩
 ·rw [show (Slot.is 0::List.replicate (ps.length+D.locals.length) Slot.unset)=[.is 0]++List.replicate (ps.length+D.locals.length) Slot.unset from rfl,show setFrom 1 ps _=_ from setFrom_is ps [.is 0] D.locals.length] at D₃
  exact D₃
theorem ws_ok {x:WsC (D.sc nm)} (hn:[x.a0.nm,x.a1.nm,x.a2.nm,x.a3.nm,x.a4.nm]=fieldNames) (V:Bs Z s) (A:FnAt Z.X fI fd) (DO:DefOk fd D x.sts) (hd:Z.d=d+2) (hnm:Z.X.nm=nm) (P:∀ Ar,Room Ar d→Pf Z.X Z.Φ Ar d) (W:WsK K C fI) (hK:∀ h,Z.X.G h→K.In h) (rl:Z.RepL s.heap ps vs) (e:wsEv D x C Z.Φ ps=some r) :
  Gets Z s r (call (.ref C) vs):=by
 unfold wsEv at e
 cases hl:Nat.beq (ps.length+1) D.params.length with
 | false=>rw [hl] at e; exact no e
 | true =>
  rw [hl] at e
  refine onMap e fun qs e1 e2=>?_
  subst e2
  intro Q E h
  refine wpAny_call ?_
  obtain ⟨hh,gg,dd,tk,os⟩:=s
  refine make_core (makes_of (hK _ V.g) W.makes) (looks_findIn (hK _ V.g) W.ini) (fun self=>bind_fn (hK _ V.g) self W.iniT) (.inl rfl) ?_
  have hnI:hh.get? (hh.objs.size+1)=none:=get_ge (Nat.le_succ _)
  have hnd:hh.get? hh.objs.size=none:=get_ge (Nat.le_refl _)
  have hN:=V.K.size _ V.g
  have hM:Z.X.N≤hh.objs.size+1:=Nat.le_succ_of_le hN
  have e1':Ext hh ((hh.push emptyDict).push (instObj C hh.objs.size)):=fun a o e=>Heap.get?_push_of_some _ (Heap.get?_push_of_some _ e)
  have gI:((hh.push emptyDict).push (instObj C hh.objs.size)).get? (hh.objs.size+1)=some (instObj C hh.objs.size):=by
   have:=Heap.get?_push_size (hh.push emptyDict) (o:=instObj C hh.objs.size) rfl
   rwa [Heap.size_push] at this
  have gD:((hh.push emptyDict).push (instObj C hh.objs.size)).get? hh.objs.size=some (dictOf [] 0):=Heap.get?_push_of_some _ (Heap.get?_push_size hh (o:=emptyDict) rfl)
  revert hnI hnd e1' gI gD hN hM
  generalize (hh.push emptyDict).push (instObj C hh.objs.size)=H
  generalize hh.objs.size+1=I
  generalize hh.objs.size=dx
  intro nI nd hN hM K₁ gI gD
  have x₁:Stp Z.X Z.X.V ⟨hh,gg,dd,tk,os⟩ ⟨H,gg,dd,tk,os⟩:=V.ext (s:=⟨hh,gg,dd,tk,os⟩) (tk:=tk) K₁
  have V₁:Bs { Z with Ar:=Z.Ar.under (.builtin "type.__call__" ⟨.ref C::vs,[]⟩),d:=d+1,B:=fun a=>Z.B a∧(a≠I∧a≠dx),fx:=fun _=>.ref I } ⟨H,gg,dd,tk,os⟩ :=
   ⟨V.K,under_new (hd▸V.R),x₁.G V.g,fun a n e=>⟨V.fresh a n (x₁.live (.inl n) e),fun q=>none_at e ⟨_,q▸gI⟩,fun q=>none_at e ⟨_,q▸gD⟩⟩,fun a b=>V.sub a b.1⟩
  have hl:=Nat.eq_of_beq_eq_true hl
  have old:∀ b o,hh.get? b=some o→b≠I∧b≠dx:=fun b o e=>⟨fun q=>none_at nI ⟨o,q▸e⟩,fun q=>none_at nd ⟨o,q▸e⟩⟩
  refine def_frame (nm:=nm) (Z:={ Z with Ar:=Z.Ar.under (.builtin "type.__call__" ⟨.ref C::vs,[]⟩),d:=d+1,B:=fun a=>Z.B a∧(a≠I∧a≠dx),fx:=fun _=>.ref I }) (σ₂:=.is 0::D.slots ps) V₁ A DO rfl (by rw [List.length_cons,rl.len]; exact hl) (fun env cs Cf ws H' EO hi K₂ D₁ Q E k=>?_) fun env cs Cf ws s₂ he hc N hi EO y₂ D₂ E'=>?_
  ·exact bind_self (Z:={ Z with Ar:=Z.Ar.under (.builtin "type.__call__" ⟨.ref C::vs,[]⟩),d:=d+1,B:=fun a=>Z.B a∧(a≠I∧a≠dx),fx:=fun _=>.ref I }) DO EO rfl D₁ hl (Mine.RepL.move (fun b o q e=>⟨⟨⟨q,old b o e⟩,fun u=>none_at (hi b u).1 ⟨o,K₁ b o e⟩⟩,K₂ b o (K₁ b o e)⟩) rl) k
  ·have hC:env.locals=Cf:=by rw [he]; rfl
   have fl:∀ b,OfFrame Cf cs b→b≠I∧b≠dx:=fun b u=>⟨fun q=>none_at (hi b u).1 ⟨_,q▸gI⟩,fun q=>none_at (hi b u).1 ⟨_,q▸gD⟩⟩
   refine wpAny_mono (x.run (I:=I) (dx:=dx) hn (first_ex (Z:={ Z with Ar:=Z.Ar.under (.builtin "type.__call__" ⟨.ref C::vs,[]⟩),d:=d+1,B:=fun a=>Z.B a∧(a≠I∧a≠dx),fx:=fun _=>.ref I }) EO hnm D₂ (P _ D₂.R)) ⟨hM,hN,fun q=>q.1.2.1 rfl,fun q=>q.1.2.2 rfl,fun u=>(fl _ u).1 rfl,fun u=>(fl _ u).2 rfl,fun l m=>?_,fun q=>(fl _ (.inl (hC▸rfl))).2 (hC▸q),y₂.off _ _ (.inl hM) gI,[],0,y₂.off _ _ (.inl hN) gD,rfl,rfl⟩ W hK rfl e1) (fun f s₃ q=>?_) fun _ _ e=>e
   ·obtain ⟨y,_,rfl⟩:=List.mem_map.mp m
    exact (fl _ (N.of y)).2
   ·obtain ⟨rfl,B,U,m,i⟩:=q
    have y₃:Stp Z.X Z.X.V ⟨hh,gg,dd,tk,os⟩ s₃:=(x₁.trans y₂).on m.x (fun b o k e=>⟨⟨k,fun u=>none_at (hi b u).1 ⟨o,K₁ b o e⟩⟩,(old b o e).2⟩) (x₁.trans y₂).size
    refine ⟨rfl,h _ _ y₃ (i.obj_is (V.fresh _ hM nI) (V.fresh _ hN nd) fun b q=>?_)⟩
    exact (m.hB b q).elim (fun q=>q.1.1) fun q=>q.elim (fun u=>V.fresh b (hi b u).2 (x₁.live (.inl (hi b u).2) (hi b u).1)) fun n=>V.fresh b n.1 ((x₁.trans y₂).live (.inl n.1) n.2)
end
end Mine
end
section
open PySem PySem.W PyProof.Rows PySem.Calls
namespace Mine
structure Tab where
 c:Addr
 P:Addr
 pos:Pos
 qual:Str
def CodeAt (N:Nat) (h:Heap) (cv:Value) (qual:Str):Prop:=∃ c oc vs t,cv=.ref c∧h.get? c=some oc∧oc.cls=.type "code"∧oc.data=.fields vs∧vs[1]?=some (.str qual t)∧N≤c
def TabOk (N:Nat) (h:Heap) (t:Tab):Prop:=∃ ps:Array Value,h.get? t.P=some (tabObj ps)∧TriplesOk ps.toList∧(codeAmong t.pos ps.toList=none∨∃ cv,codeAmong t.pos ps.toList=some cv∧CodeAt N h cv t.qual)
structure Base (h₁:Heap) (N:Nat) (tabs:List Tab) (h:Heap):Prop where
 old':∀ a o,h₁.get? a=some o→(∀ t∈tabs,a≠t.P)→h.get? a=some o
 tab:∀ t∈tabs,TabOk N h t
 size:N≤h.objs.size
structure Start (h₁:Heap) (N:Nat) (tabs:List Tab) (K:Frag) (mg mb:Str→Option Value):Prop where
 live:∀ a o,h₁.get? a=some o→a < N
 top:∃ a o,N=a+1∧h₁.get? a=some o
 tab:∀ t∈tabs,h₁.get? t.P=some (tabObj #[])
 hd:∀ t∈tabs,CodeHd h₁ t.c t.P
 apart:∀ t∈tabs,∀ t'∈tabs,t.P=t'.P→t=t'∨(t.pos.line==t'.pos.line&&t.pos.col==t'.pos.col)=false
 K:∀ a o,K.lookup a=some o→h₁.get? a=some o∧o≠tabObj #[]
 g:h₁.Ns mainGlobals mg
 b:h₁.Ns builtinsNs mb
 nolimit:h₁.NoLimit
 builtins:∀ x:Str,x≠"__name__"→mb x=bootBuiltins x
 bmain:∃ bm ob,mg "__builtins__"=some (.ref bm)∧bm≠builtinsNs∧h₁.get? bm=some ob∧ob.cls=.type "module"∧ob.dict=some builtinsNs∧ob.data=.plain
section
variable {h₁ h h':Heap} {N:Nat} {tabs:List Tab} {K:Frag} {mg mb:Str→Option Value}
theorem ns_keeps {a:Addr} {m:Str→Option Value} (x:h₁.Ns a m) (k:∀ a o,h₁.get? a=some o→o≠tabObj #[]→h.get? a=some o):h.Ns a m :=
 x.at' fun o e=>k a o e fun q=>by
  obtain ⟨o',es,ep,e',hd,_⟩:=x
  rw [e] at e'
  rw [← Option.some.inj e',q] at hd
  exact nomatch hd
theorem Base.old (B:Base h₁ N tabs h) (S:Start h₁ N tabs K mg mb):∀ a o,h₁.get? a=some o→o≠tabObj #[]→h.get? a=some o:=fun a o e n =>
 B.old' a o e fun t ht q=>n (by have:=S.tab t ht; rw [← q,e] at this; exact Option.some.inj this)
theorem Base.ns (B:Base h₁ N tabs h) (S:Start h₁ N tabs K mg mb) {a:Addr} {m:Str→Option Value} (x:h₁.Ns a m):h.Ns a m:=ns_keeps x (B.old S)
theorem Base.inK (B:Base h₁ N tabs h) (S:Start h₁ N tabs K mg mb):K.In h:=fun a o e=>B.old S a o (S.K a o e).1 (S.K a o e).2
theorem Base.nolimit (B:Base h₁ N tabs h) (S:Start h₁ N tabs K mg mb):h.NoLimit:=let ⟨mc,x,e⟩:=S.nolimit; ⟨mc,B.ns S x,e⟩
theorem Base.hd (B:Base h₁ N tabs h) (S:Start h₁ N tabs K mg mb) {t:Tab} (ht:t∈tabs):CodeHd h t.c t.P:=by
 obtain ⟨o,vs,file,tf,flags,tg,inF,text,tt,e,hc,r⟩:=S.hd t ht
 exact ⟨o,vs,file,tf,flags,tg,inF,text,tt,B.old S _ _ e (fun q=>by rw [q] at hc; cases hc),hc,r⟩
theorem Base.bmain (B:Base h₁ N tabs h) (S:Start h₁ N tabs K mg mb) {P:Addr} {ps:Array Value} (hP:h.get? P=some (tabObj ps)):h.BuiltinsAt mg P∧mainGlobals≠P:=by
 obtain ⟨bm,ob,b1,b2,b3,b4,b5,b6⟩:=S.bmain
 have b3':=B.old S _ _ b3 fun q=>by rw [q] at b4; cases b4
 refine ⟨⟨bm,ob,b1,b2,fun q=>?_,fun q=>?_,b3',b4,b5,b6⟩,fun q=>?_⟩
 ·obtain ⟨o,es,ep,e,hd,_⟩:=S.g
  rw [q,e] at b3; cases b3; rw [hd] at b6; cases b6
 ·rw [q,hP] at b3'; cases b3'; cases b4
 ·obtain ⟨o,es,ep,e,hd,_⟩:=B.ns S S.g
  rw [q,hP] at e; cases e; cases hd
theorem Base.start (S:Start h₁ N tabs K mg mb):Base h₁ N tabs h₁:=⟨fun _ _ e _=>e,fun t ht=>⟨#[],S.tab t ht,trivial,.inl rfl⟩,by obtain ⟨a,o,rfl,e⟩:=S.top; exact Heap.lt_size e⟩
theorem Base.sized (S:Start h₁ N tabs K mg mb) (old:∀ a o,h₁.get? a=some o→(∀ t∈tabs,a≠t.P)→h'.get? a=some o) (tab:∀ t∈tabs,TabOk N h' t):Base h₁ N tabs h':=by
 refine ⟨old,tab,?_⟩
 obtain ⟨a,o,rfl,e⟩:=S.top
 by_cases q:∃ t∈tabs,a=t.P
 ·obtain ⟨t,ht,rfl⟩:=q
  obtain ⟨ps,e1,_⟩:=tab t ht
  exact Heap.lt_size e1
 ·exact Heap.lt_size (old a o e fun t ht q'=>q ⟨t,ht,q'⟩)
theorem CodeAt.keep {cv:Value} {qual:Str} (x:CodeAt N h cv qual) (k:∀ a o,h.get? a=some o→o.cls=.type "code"→(∃ vs,o.data=.fields vs)→h'.get? a=some o):CodeAt N h' cv qual:=by
 obtain ⟨c,oc,vs,t,e1,e2,e3,e4,e5,e6⟩:=x
 exact ⟨c,oc,vs,t,e1,k _ _ e2 e3 ⟨vs,e4⟩,e3,e4,e5,e6⟩
theorem Base.off (S:Start h₁ N tabs K mg mb) (B:Base h₁ N tabs h) {W:Addr→Prop} (hW:∀ a,W a→Mut N h a) (x:∀ a o,¬ W a→h.get? a=some o→h'.get? a=some o):Base h₁ N tabs h':=by
 have low:∀ a,a < N→¬ W a:=fun a l w=>absurd l (Nat.not_lt.mpr (hW a w).1)
 refine Base.sized S (fun a o e n=>x a o (low a (S.live a o e)) (B.old' a o e n)) fun t ht=>?_
 obtain ⟨ps,e1,e2,e3⟩:=B.tab t ht
 refine ⟨ps,x _ _ (low _ (S.live _ _ (S.tab t ht))) e1,e2,e3.imp id fun q=>q.imp fun cv q=>⟨q.1,q.2.keep fun a o e1 e2 e3=>x a o (fun w=>?_) e1⟩⟩
 obtain ⟨_,o',e,n⟩:=hW _ w
 obtain rfl:=Option.some.inj (e1.symm.trans e)
 exact n.elim (fun n=>n e2) fun n=>e3.elim fun vs q=>n vs q
end
structure Place where
 prog:Program
 w:World
 h₁:Heap
 N:Nat
 l₀:Addr
 tabs:List Tab
 K:Frag
 mg:Str→Option Value
 mb:Str→Option Value
 nm:Nms
 fv:Nat→Value
 gv:Nat→Value
 mv:Nat→Value
noncomputable def Place.X (p:Place):Cx:={ prog:=p.prog,w:=p.w,N:=p.N,L₀:=fun a=>a=p.l₀,G:=Base p.h₁ p.N p.tabs,nm:=p.nm,mg:=p.mg,mb:=p.mb,fv:=p.fv,gv:=p.gv,mv:=p.mv,xv:=fun _=>none }
structure PlaceOk (p:Place) (fI:Addr):Prop where
 S:Start p.h₁ p.N p.tabs p.K p.mg p.mb
 W:WsK p.K p.nm.cls fI
 fns:∀ f x,p.nm.fns[f]?=some x→p.mg x=some (p.fv f)∧keepIn p.K (p.fv f)=true
 gens:∀ f x,p.nm.gens[f]?=some x→p.mg x=some (p.gv f)∧keepIn p.K (p.gv f)=true
 flts:∀ x b,p.nm.flts.lookup x=some b→∃ t,p.mg x=some (.float b t)
 inams:∀ x b,p.nm.inams.lookup x=some b→∃ t,p.mg x=some (.int b t)
 blt:∀ x∈(["len","abs","max","min","sum","int","sorted","tuple","list","divmod","range","enumerate","zip","reversed","str"]:List Str),p.mg x=none
 meth:∀ f x,p.nm.ms[f]?=some x→∃ a,p.mv f=.ref a∧findIn p.K (.ref p.nm.cls) x=some (some (.ref a))∧typeIn p.K (.ref a)=some (.type "function")∧keepIn p.K (.ref a)=true∧x ∉ fieldNames
 cat:∀ f x y,(f,x,y)∈p.nm.cats→p.fv f=.ref p.nm.cls∧∃ t,findCls p.K (.ref p.nm.cls) (.type "type") x=some (.val (.str y t))
theorem lookIn_none {es:List DictEntry} {n:Nat} {x:Str} (z:OnlyFields es) (hx:x ∉ fieldNames):shadowIn (some (dictOf es n)) x=some false:=by
 unfold shadowIn lookIn
 dsimp only
 have h1:es.toArray.toList.find? (·.key.isStr x)=none:=z.2 x hx
 rw [h1]
 have h2:es.toArray.toList.any (·.refKey)=false:=by
  rw [List.any_eq_false]
  intro e he
  rw [z.1 e he]; decide
 rw [h2]
 rfl
theorem rep_handed {h:Heap} {B:Addr→Prop} {v:Value} {p:PV} (r:Rep h B p v):handedIn v=true:=by
 cases p with
 | none=>exact Rep.onNone r (M:=fun v=>handedIn v=true) rfl
 | bool b=>exact Rep.onBool r (M:=fun v=>handedIn v=true) rfl
 | int i=>exact Rep.onInt r (M:=fun v=>handedIn v=true) fun _=>rfl
 | flt x=>exact Rep.onFlt r (M:=fun v=>handedIn v=true) fun _=>rfl
 | str x=>exact Rep.onStr r (M:=fun v=>handedIn v=true) fun _=>rfl
 | tup xs=>exact Rep.onTup r (M:=fun v=>handedIn v=true) fun _ _ _ _ _ _=>rfl
 | lst xs=>exact Rep.onLst r (M:=fun v=>handedIn v=true) fun _ _ _ _ _ _=>rfl
 | obj C fs=>obtain ⟨vs,⟨a,dx,es,n,rfl,_⟩,_⟩:=(rep_obj▸r:∃ vs,ObjAt B h C v vs∧RepL h B fs vs); rfl
 | dic ks fs=>exact Rep.onDic r (M:=fun v=>handedIn v=true) fun _ _ _ _ _=>rfl
theorem evalArgs_any {M:Model} {Ar:Around} {E:Value→Shared→Prop} {s:Shared} {f:Value} {trees:List (Bool × Sem Value)} {Q:Args→Shared→Prop} (hn:trees.any (·.1)=false) (h:wpAny M Ar (spliced trees) (fun vs s'=>Q ⟨vs,[]⟩ s') E s) :
  wpAny M Ar (evalArgs f true trees []) Q E s:=by
 cases trees with
 | nil =>
  unfold evalArgs
  exact h
 | cons t r =>
  obtain ⟨b,x⟩:=t
  have:b=false:=by
   cases b with
   | false=>rfl
   | true=>exact nomatch hn
  subst this
  exact Calls.evalArgs_plain h
theorem place_ok {p:Place} {fI:Addr} (O:PlaceOk p fI) (hlam:∀ c pos q,(c,pos,q)∈p.nm.lams→∀ params body scope,MkLam p.X (.ref c) params body scope pos q):CxOk p.X where
 Gk:=fun h h' W g hW x=>Base.off O.S g hW x
 nolimit:=fun h g=>Base.nolimit g O.S
 size:=fun h g=>Base.size g
 g:=fun h g=>Base.ns g O.S O.S.g
 b:=fun h g=>Base.ns g O.S O.S.b
 fns:=fun f x e=>(O.fns f x e).1
 gens:=fun f x e=>(O.gens f x e).1
 flts:=O.flts
 inams:=O.inams
 blt:=fun x hx=>⟨O.blt x hx,O.S.builtins x (by intro q; subst q; revert hx; decide)⟩
 callw:=fun f x hf Ar pos first trees Q E s hn hh g =>
  callWith_of (P:=p.K.In) (by rw [hn]; rfl) (keeps_K (O.fns f x hf).2) (evalArgs_any hn (wpAny_mono hh (fun vs s₁ q=>⟨Base.inK q.1 O.S,q.2⟩) fun _ _ e=>e))
 callg:=fun f x hf Ar pos first trees Q E s hn hh g =>
  callWith_of (P:=p.K.In) (by rw [hn]; rfl) (keeps_K (O.gens f x hf).2) (evalArgs_any hn (wpAny_mono hh (fun vs s₁ q=>⟨Base.inK q.1 O.S,q.2⟩) fun _ _ e=>e))
 callx:=fun f v e=>no e
 lam:=hlam
 attr:=fun i x hx Ar B s ov fs pv Q E g r e hq=>by
  obtain ⟨vs,⟨a,dx,es,n,rfl,_,_,h1,h3,z,rf⟩,rl⟩:=(rep_obj▸r:∃ vs,ObjAt B s.heap p.X.nm.cls ov vs∧RepL s.heap B fs vs)
  obtain ⟨v,q1,q2⟩:=rl.get e
  have q3:nsFind es.toArray x=some v:=by
   have:=congrArg (fun l:List (Option Value)=>l[i]?) rf
   rw [List.getElem?_map,List.getElem?_map,hx,q1] at this
   exact Option.some.inj this
  exact attr_get (X:=p.X) O.W (Base.inK g O.S) h1 h3 (List.mem_of_getElem? hx) q3 (rep_handed q2) (hq v _ q2)
 umeth:=fun f x hf Ar B s o apos pos env ov fs n trees Q E g r hform hline hn hh=>by
  obtain ⟨a,e1,e2,e3,e4,e5⟩:=O.meth f x hf
  obtain ⟨vs,⟨I,dx,es,nn,rfl,_,_,h1,h3,z,rf⟩,rl⟩:=(rep_obj▸r:∃ vs,ObjAt B s.heap p.X.nm.cls ov vs∧RepL s.heap B fs vs)
  unfold methodCall
  rw [hform]
  refine wpAny_bind (wpAny_holding ?_)
  unfold calleeOf
  rw [if_pos rfl]
  refine method_fn (x:=I) (C:=p.nm.cls) (ox:=instObj p.nm.cls dx) (od:=some (dictOf es nn)) (Base.inK g O.S) ⟨h1,rfl,rfl,h3⟩ O.W.ga O.W.gk e2 e3 (lookIn_none z e5) ?_
  have:methodCallPos true o env apos pos=pure pos:=by
   unfold methodCallPos
   rw [if_pos (by rw [hline]; rfl)]
  refine wpAny_bind (wpAny_of_eq this ?_)
  refine callWith_of (P:=p.K.In) (by rw [hn]; rfl) (keeps_K e4) (evalArgs_any hn (wpAny_mono hh (fun vs s₁ q=>⟨Base.inK q.1 O.S,?_⟩) fun _ _ e=>e))
  have:=q.2
  rw [show p.X.mv f=Value.ref a from e1] at this
  exact this
 cat:=fun f w x y _ hx Ar s Q E g hq=>by
  obtain ⟨e1,t,e2⟩:=O.cat f x y hx
  rw [show p.X.fv f=Value.ref p.nm.cls from e1]
  exact cls_value (Base.inK g O.S) O.W.rd e2 rfl (hq t)
end Mine
end
section
open PySem PySem.W PyProof.Rows PySem.Calls
namespace Mine
section
variable {M:Model} {A:Around} {E:Value→Shared→Prop} {s:Shared} {name qual:Str} {params:Arguments} {body:List Stmt} {scope:Scope} {env:Env} {c P:Addr} {ps:Array Value} {pos:Pos} {firstLine:Nat} {mg:Str→Option Value}
 {clos:List (Str × Addr)} {Q:Value→Shared→Prop}
theorem code_of {h:Heap} {N c' P':Addr} {qual:Str} {ps:Array Value} (hr:h.CodeRec (.ref c') qual) (ht:h.TableAt c' P' ps) (hN:N≤c'):CodeAt N h (.ref c') qual:=by
 obtain ⟨c,o,vs,t,e,h1,h2,h3⟩:=hr
 cases e
 obtain ⟨⟨o',vs',e1,e2,e3,e4⟩,_⟩:=ht
 rw [h1] at e1; cases e1
 exact ⟨c',o,vs,t,rfl,h1,e2,h2,h3,hN⟩
theorem mk_miss (hcl:closureFor scope env=pure clos) (hge0:env.globals=mainGlobals) (hg:s.heap.Ns mainGlobals mg) (hcode:env.code=.ref c) (C:CodeHd s.heap c P) (hP:s.heap.get? P=some (tabObj ps)) (ht:TriplesOk ps.toList)
  (hnf:codeAmong pos ps.toList=none) (hgP:mainGlobals≠P) (hb:s.heap.BuiltinsAt mg P)
  (h:∀ c' ctv doc h' tk,Heap.ExtBut P s.heap h'→c' < h'.objs.size→CodeAt s.heap.objs.size h' (.ref c') qual→h'.get? P=some (tabObj (ps++#[rawInt pos.line,rawInt pos.col,.ref c'])) →
   Q (.ref h'.objs.size) { s with heap:=h'.push (fnMade name qual params body scope clos doc ((mg "__name__").getD .none) c' ctv),toks:=tk }) :
  wpAny M A (makeFunction name qual params (.stmts body) scope env [] [] [] pos firstLine) Q E s:=by
 rw [makeFunction_eq]
 simp only [List.zip_nil_right,List.filterMap_nil,List.isEmpty_nil,if_true,pure_bind]
 obtain ⟨bm,ob,hbm,hne0,_,hneP,hbo,hcls,hdict,hdata⟩:=hb
 unfold makeTail
 rw [hcl,hge0]
 refine wpAny_bind (wpAny_pure ?_)
 have tail:∀ (s₁:Shared) (ctv:Value),(∀ b o,s.heap.get? b=some o→s₁.heap.get? b=some o)→(∃ h₁ tk,s₁={ s with heap:=h₁,toks:=tk })→s.heap.objs.size≤s₁.heap.objs.size →
   wpAny M A (functionCode env pos firstLine name qual params scope (.stmts body)) (fun code s₂=>∃ c' h' tk,code=.ref c'∧s₂={ s with heap:=h',toks:=tk }∧Heap.ExtBut P s.heap h'∧c' < h'.objs.size∧CodeAt s.heap.objs.size h' (.ref c') qual∧h'.get? P=some (tabObj (ps++#[rawInt pos.line,rawInt pos.col,.ref c']))) E s₁:=by
  intro s₁ ctv k e hsz
  obtain ⟨h₁,tk₁,rfl⟩:=e
  refine wpAny_functionCodeX hcode ((C.keeps k).code (k _ _ hP) ht) ((C.keeps k).tab (k _ _ hP)) hnf fun c' h' tk hx hge hlt _ hrec htb htb'=>?_
  obtain ⟨P',_,_,htc⟩:=htb'
  exact ⟨c',h',tk,rfl,rfl,fun b o hb e=>hx b o hb (k b o e),hlt,code_of hrec htc (Nat.le_trans hsz hge),htb.2⟩
 have fin:∀ (ctv:Value) (code:Value) (s₂:Shared),(∃ c' h' tk,code=.ref c'∧s₂={ s with heap:=h',toks:=tk }∧Heap.ExtBut P s.heap h'∧c' < h'.objs.size∧CodeAt s.heap.objs.size h' (.ref c') qual∧h'.get? P=some (tabObj (ps++#[rawInt pos.line,rawInt pos.col,.ref c']))) →
   wpAny M A (builtinsFor mainGlobals env.builtins) (fun bi s₃=>bi=builtinsNs∧s₃=s₂∧wpAny M A (nsGet mainGlobals "__name__") (fun nm s₄=>nm=mg "__name__"∧s₄=s₂) E s₂) E s₂:=by
  rintro ctv code s₂ ⟨c',h',tk,rfl,rfl,hx,hlt,hrec,htb⟩
  have hg':=hg.extBut hx hgP
  exact wpAny_builtinsFor hg' hbm hne0 (hx _ _ hneP hbo) hcls hdict hdata ⟨rfl,rfl,wpAny_nsGet hg' ⟨rfl,rfl⟩⟩
 cases clos with
 | nil =>
  simp only [List.isEmpty_nil,if_true]
  refine wpAny_bind (wpAny_pure ?_)
  refine wpAny_bind (wpAny_mono (tail s .none (fun _ _ e=>e) ⟨s.heap,s.toks,rfl⟩ (Nat.le_refl _)) (fun code s₂ q=>?_) fun _ _ e=>e)
  refine wpAny_bind (wpAny_mono (fin .none code s₂ q) (fun bi s₃ q'=>?_) fun _ _ e=>e)
  obtain ⟨rfl,rfl,q''⟩:=q'
  refine wpAny_bind (wpAny_mono q'' (fun nm s₄ q3=>?_) fun _ _ e=>e)
  obtain ⟨rfl,rfl⟩:=q3
  obtain ⟨c',h',tk,rfl,rfl,hx,hlt,hrec,htb⟩:=q
  cases hdoc:docOf body with
  | none=>exact wpAny_bind (wpAny_pure (wpAny_newObj_type (h c' .none .none h' tk hx hlt hrec htb) (by size_fits)))
  | some t=>exact wpAny_bind (wpAny_mkText (wpAny_newObj_type (h c' .none _ h' _ hx hlt hrec htb) (by size_fits)))
 | cons q r =>
  simp only [List.isEmpty_cons,Bool.false_eq_true,if_false]
  refine wpAny_bind (wpAny_newTextTuple ?_)
  refine wpAny_bind (wpAny_mono (tail _ .none (fun b o e=>Heap.get?_push_of_some _ e) ⟨_,_,rfl⟩ (by rw [Heap.size_push]; exact Nat.le_succ _)) (fun code s₂ q=>?_) fun _ _ e=>e)
  refine wpAny_bind (wpAny_mono (fin .none code s₂ q) (fun bi s₃ q'=>?_) fun _ _ e=>e)
  obtain ⟨rfl,rfl,q''⟩:=q'
  refine wpAny_bind (wpAny_mono q'' (fun nm s₄ q3=>?_) fun _ _ e=>e)
  obtain ⟨rfl,rfl⟩:=q3
  obtain ⟨c',h',tk,rfl,rfl,hx,hlt,hrec,htb⟩:=q
  cases hdoc:docOf body with
  | none=>exact wpAny_bind (wpAny_pure (wpAny_newObj_type (h c' _ .none h' tk hx hlt hrec htb) (by size_fits)))
  | some t=>exact wpAny_bind (wpAny_mkText (wpAny_newObj_type (h c' _ _ h' _ hx hlt hrec htb) (by size_fits)))
theorem mk_missE {body:Expr} (hcl:closureFor scope env=pure clos) (hge0:env.globals=mainGlobals) (hg:s.heap.Ns mainGlobals mg) (hcode:env.code=.ref c) (C:CodeHd s.heap c P) (hP:s.heap.get? P=some (tabObj ps)) (ht:TriplesOk ps.toList)
  (hnf:codeAmong pos ps.toList=none) (hgP:mainGlobals≠P) (hb:s.heap.BuiltinsAt mg P)
  (h:∀ c' ctv h' tk,Heap.ExtBut P s.heap h'→c' < h'.objs.size→CodeAt s.heap.objs.size h' (.ref c') qual→h'.get? P=some (tabObj (ps++#[rawInt pos.line,rawInt pos.col,.ref c'])) →
   Q (.ref h'.objs.size) { s with heap:=h'.push (kla_obj name qual params body scope clos ((mg "__name__").getD .none) c' ctv),toks:=tk }) :
  wpAny M A (makeFunction name qual params (.expr body) scope env [] [] [] pos firstLine) Q E s:=by
 rw [makeFunction_eq]
 simp only [List.zip_nil_right,List.filterMap_nil,List.isEmpty_nil,if_true,pure_bind]
 obtain ⟨bm,ob,hbm,hne0,_,hneP,hbo,hcls,hdict,hdata⟩:=hb
 unfold makeTail
 rw [hcl,hge0]
 refine wpAny_bind (wpAny_pure ?_)
 have go:∀ (h₁:Heap) (ctv:Value),(∀ b o,s.heap.get? b=some o→h₁.get? b=some o)→s.heap.objs.size≤h₁.objs.size →
   wpAny M A (do
    let code ← functionCode env pos firstLine name qual params scope (.expr body)
    let bi ← builtinsFor mainGlobals env.builtins
    let nm ← nsGet mainGlobals "__name__"
    let doc ← (pure .none:Sem Value)
    newObj (.type "function") (.func { name,qualname:=qual,params,body:=.expr body,scope,globals:=mainGlobals,closure:=clos,defaults:=.none,kwdefaults:=.none,doc,pyModule:=nm.getD .none,annotations:=none,code,closureTuple:=ctv,builtins:=bi })) Q E { s with heap:=h₁ }:=by
  intro h₁ ctv k hsz
  refine wpAny_bind (wpAny_functionCodeX hcode ((C.keeps k).code (k _ _ hP) ht) ((C.keeps k).tab (k _ _ hP)) hnf fun c' h' tk hx hge hlt _ hrec htb htb'=>?_)
  obtain ⟨P',_,_,htc⟩:=htb'
  have hx':Heap.ExtBut P s.heap h':=fun b o hb e=>hx b o hb (k b o e)
  have hg':=hg.extBut hx' hgP
  refine wpAny_bind (wpAny_builtinsFor hg' hbm hne0 (hx' _ _ hneP hbo) hcls hdict hdata ?_)
  refine wpAny_bind (wpAny_nsGet hg' ?_)
  exact wpAny_bind (wpAny_pure (wpAny_newObj_type (h c' ctv h' tk hx' hlt (code_of hrec htc (Nat.le_trans hsz hge)) htb.2) (by size_fits)))
 cases clos with
 | nil =>
  simp only [List.isEmpty_nil,if_true]
  exact wpAny_bind (wpAny_pure (go s.heap .none (fun _ _ e=>e) (Nat.le_refl _)))
 | cons q r =>
  simp only [List.isEmpty_cons,Bool.false_eq_true,if_false]
  exact wpAny_bind (wpAny_newTextTuple (go _ _ (fun b o e=>Heap.get?_push_of_some _ e) (by rw [Heap.size_push]; exact Nat.le_succ _)))
end
theorem among_other {pos pos':Pos} {c:Value} (hne:(pos.line==pos'.line&&pos.col==pos'.col)=false) (l:List Value) (h:TriplesOk l):codeAmong pos' (l++[rawInt pos.line,rawInt pos.col,c])=codeAmong pos' l:=by
 fun_induction TriplesOk l with
 | case1 =>
  show (if ((pos.line:Int)==(pos'.line:Int)&&(pos.col:Int)==(pos'.col:Int))=true then some c else codeAmong pos' [])=_
  have e:((pos.line:Int)==(pos'.line:Int)&&(pos.col:Int)==(pos'.col:Int))=(pos.line==pos'.line&&pos.col==pos'.col):=by
   congr 1 <;> (rw [Bool.eq_iff_iff]; simp; exact Int.ofNat_inj)
  rw [e,hne]; rfl
 | case2 a t b u x rest ih =>
  simp only [List.cons_append,codeAmong]
  rw [ih h]
 | case3 l h1 h2=>exact h.elim
theorem Base.lay {h₁ h h':Heap} {N:Nat} {tabs:List Tab} {K:Frag} {mg mb:Str→Option Value} (S:Start h₁ N tabs K mg mb) (B:Base h₁ N tabs h) {t:Tab} (ht:t∈tabs) {ps₀:Array Value} {c':Value} (eP:h.get? t.P=some (tabObj ps₀)) (x:Heap.ExtBut t.P h h') (htb:h'.get? t.P=some (tabObj (ps₀++#[rawInt t.pos.line,rawInt t.pos.col,c']))) (hnew:TabOk N h' t):Base h₁ N tabs h':=by
 refine Base.sized S (fun a o e n=>x a o (n t ht) (B.old' a o e n)) fun t' ht'=>?_
 have kc:∀ {cv:Value} {q:Str},CodeAt N h cv q→CodeAt N h' cv q:=fun r=>r.keep fun a o e c _=>x a o (fun z=>by rw [z,eP] at e; rw [← Option.some.inj e] at c; cases c) e
 by_cases q:t'.P=t.P
 ·rcases S.apart t ht t' ht' q.symm with z | z
  ·exact z▸hnew
  ·obtain ⟨ps,e1,e2,e3⟩:=B.tab t' ht'
   have ee:ps=ps₀:=by
    rw [q,eP] at e1
    injection e1 with e1; injection e1 with _ _ e1 _; injection e1 with e1; exact e1.symm
   subst ee
   obtain ⟨_,f1,f2,_⟩:=hnew
   refine ⟨_,q▸htb,?_,?_⟩
   ·rw [Array.toList_append]; exact TriplesOk_snoc _ _ _ _ e2
   ·rw [Array.toList_append,show (#[rawInt t.pos.line,rawInt t.pos.col,c']:Array Value).toList=[rawInt t.pos.line,rawInt t.pos.col,c'] from rfl,among_other z _ e2]
    exact e3.imp id fun r=>r.imp fun cv r=>⟨r.1,kc r.2⟩
 ·obtain ⟨ps,e1,e2,e3⟩:=B.tab t' ht'
  exact ⟨ps,x _ _ q e1,e2,e3.imp id fun r=>r.imp fun cv r=>⟨r.1,kc r.2⟩⟩
theorem place_fin {p:Place} {fI:Addr} (O:PlaceOk p fI) {t:Tab} (ht:t∈p.tabs) (hl:∀ t∈p.tabs,p.l₀≠t.P) {s:Shared} (g:Base p.h₁ p.N p.tabs s.heap) (h':Heap) (tk:Tok) (o:Obj) (fd:FuncData) (cv:Value) (hx:Heap.ExtBut t.P s.heap h') (B':Base p.h₁ p.N p.tabs h') (hsz:s.heap.objs.size≤h'.objs.size) (hf:o.isFreed=false) (hd:o.data=.func fd) (hcv:fd.code=cv) (hq:fd.qualname=t.qual) (hc:CodeAt p.N h' cv t.qual) :
  Stp p.X p.X.V s { s with heap:=h'.push o,toks:=tk }∧s.heap.objs.size≤h'.objs.size∧FnStands p.X (h'.push o) h'.objs.size fd:=by
 have lowP:t.P < p.N:=O.S.live _ _ (O.S.tab t ht)
 have kp:Ext h' (h'.push o):=Ext.push _ _
 have B'':Base p.h₁ p.N p.tabs (h'.push o):=B'.off O.S (W:=fun _=>False) (fun _ q=>q.elim) fun a o _ e=>kp a o e
 refine ⟨⟨fun a o k e=>kp _ _ (hx a o (fun q=>?_) e),fun _=>B'',fun _ _ _ e=>e,id,rfl⟩,hsz,⟨o,Heap.get?_push_size _ hf,hd⟩,Nat.le_trans g.size hsz,?_⟩
 ·exact k.elim (fun k=>absurd lowP (Nat.not_lt.mpr (q▸k))) fun k=>hl t ht ((show a=p.l₀ from k).symm.trans q)
 ·obtain ⟨c,oc,vs,tk,e1,e2,e3,e4,e5,e6⟩:=hc
  exact ⟨c,oc,vs,tk,by rw [hcv,e1],kp _ _ e2,e3,e4,by rw [hq]; exact e5,.inl e6⟩
theorem place_new {p:Place} {fI:Addr} (O:PlaceOk p fI) {t:Tab} (ht:t∈p.tabs) {s:Shared} (g:Base p.h₁ p.N p.tabs s.heap) {ps:Array Value} (eP:s.heap.get? t.P=some (tabObj ps)) (hT:TriplesOk ps.toList) (hnf:codeAmong t.pos ps.toList=none) {c':Addr} {h':Heap} (hx:Heap.ExtBut t.P s.heap h') (hrec:CodeAt s.heap.objs.size h' (.ref c') t.qual) (htb:h'.get? t.P=some (tabObj (ps++#[rawInt t.pos.line,rawInt t.pos.col,.ref c']))) :
  CodeAt p.N h' (.ref c') t.qual∧Base p.h₁ p.N p.tabs h'∧s.heap.objs.size≤c':=by
 obtain ⟨c,oc,vs,tk',e1,e2,e3,e4,e5,e6⟩:=hrec
 cases e1
 have hc':CodeAt p.N h' (.ref c') t.qual:=⟨c',oc,vs,tk',rfl,e2,e3,e4,e5,Nat.le_trans g.size e6⟩
 have hnew:TabOk p.N h' t:=⟨_,htb,by rw [Array.toList_append]; exact TriplesOk_snoc _ _ _ _ hT,.inr ⟨_,by rw [Array.toList_append]; exact codeAmong_snoc _ hT hnf,hc'⟩⟩
 exact ⟨hc',g.lay O.S ht eP hx htb hnew,e6⟩
theorem place_mk {p:Place} {fI:Addr} (O:PlaceOk p fI) {t:Tab} (ht:t∈p.tabs) (name:Str) (params:Arguments) (body:List Stmt) (scope:Scope) (hl:∀ t∈p.tabs,p.l₀≠t.P):MkFn p.X (.ref t.c) name params body scope t.pos t.qual:=by
 intro Ar env clos s Q E g hge hcode hcl h
 have g:Base p.h₁ p.N p.tabs s.heap:=g
 obtain ⟨ps,eP,hT,hcase⟩:=g.tab t ht
 obtain ⟨hb,hgP⟩:=g.bmain O.S eP
 rcases hcase with hnf | ⟨cv,hf,hc⟩
 ·refine mk_miss hcl hge (g.ns O.S O.S.g) hcode (g.hd O.S ht) eP hT hnf hgP hb fun c' ctv doc h' tk hx hlt hrec htb=>?_
  obtain ⟨hc',B',e6⟩:=place_new O ht g eP hT hnf hx hrec htb
  obtain ⟨q1,q2,q3⟩:=place_fin O ht hl g h' tk (fnMade name t.qual params body scope clos doc ((p.mg "__name__").getD .none) c' ctv) _ (.ref c') hx B' (Nat.le_trans e6 (Nat.le_of_lt hlt)) rfl rfl rfl rfl hc'
  exact h _ _ _ q1 q2 q3 ⟨_,_,_,_,rfl⟩
 ·refine makeFunction_hit hcl hge (g.ns O.S O.S.g) hcode (g.hd O.S ht) eP hT hf hb fun ctv doc h' tk hx hsz=>?_
  have B':Base p.h₁ p.N p.tabs h':=g.off O.S (W:=fun _=>False) (fun _ q=>q.elim) fun a o _ e=>hx a o e
  obtain ⟨q1,q2,q3⟩:=place_fin O ht hl g h' tk { cls:=.type "function",data:=.func (fnX name t.qual params body scope clos .none .none doc ((p.mg "__name__").getD .none) none cv ctv) } _ cv (fun b o _ e=>hx b o e) B' hsz rfl rfl rfl rfl (hc.keep fun a o e _ _=>hx a o e)
  exact h _ _ _ q1 q2 q3 ⟨_,_,_,_,rfl⟩
theorem place_lam {p:Place} {fI:Addr} (O:PlaceOk p fI) {t:Tab} (ht:t∈p.tabs) (params:Arguments) (body:Expr) (scope:Scope) (hl:∀ t∈p.tabs,p.l₀≠t.P):MkLam p.X (.ref t.c) params body scope t.pos t.qual:=by
 intro Ar env clos s Q E g hge hcode hcl h
 have g:Base p.h₁ p.N p.tabs s.heap:=g
 obtain ⟨ps,eP,hT,hcase⟩:=g.tab t ht
 obtain ⟨hb,hgP⟩:=g.bmain O.S eP
 rcases hcase with hnf | ⟨cv,hf,hc⟩
 ·refine mk_missE hcl hge (g.ns O.S O.S.g) hcode (g.hd O.S ht) eP hT hnf hgP hb fun c' ctv h' tk hx hlt hrec htb=>?_
  obtain ⟨hc',B',e6⟩:=place_new O ht g eP hT hnf hx hrec htb
  obtain ⟨q1,q2,q3⟩:=place_fin O ht hl g h' tk (kla_obj "<lambda>" t.qual params body scope clos ((p.mg "__name__").getD .none) c' ctv) _ (.ref c') hx B' (Nat.le_trans e6 (Nat.le_of_lt hlt)) rfl rfl rfl rfl hc'
  exact h _ _ _ q1 q2 q3 ⟨_,_,_,rfl⟩
 ·refine kla_makeFunctionHit hcl hge (g.ns O.S O.S.g) hcode (g.hd O.S ht) eP hT hf hb fun ctv h' tk hx hsz=>?_
  have B':Base p.h₁ p.N p.tabs h':=g.off O.S (W:=fun _=>False) (fun _ q=>q.elim) fun a o _ e=>hx a o e
  obtain ⟨q1,q2,q3⟩:=place_fin O ht hl g h' tk { cls:=.type "function",data:=.func (kla_fn "<lambda>" t.qual params body scope clos ((p.mg "__name__").getD .none) cv ctv) } _ cv (fun b o _ e=>hx b o e) B' hsz rfl rfl rfl rfl (hc.keep fun a o e _ _=>hx a o e)
  exact h _ _ _ q1 q2 q3 ⟨_,_,_,rfl⟩
end Mine
end
section
open PySem PySem.W PyProof.Rows
namespace Mine
theorem top_addr {h:Heap}:(∃ a o,h.get? a=some o)→∃ N,(∀ a o,h.get? a=some o→a < N)∧∃ a o,N=a+1∧h.get? a=some o:=by
 have key:∀ n,(∀ a o,h.get? a=some o→a < n)→(∃ a o,h.get? a=some o)→∃ N,(∀ a o,h.get? a=some o→a < N)∧∃ a o,N=a+1∧h.get? a=some o:=by
  intro n
  induction n with
  | zero=>exact fun h1 ⟨a,o,e⟩=>absurd (h1 a o e) (Nat.not_lt_zero a)
  | succ n ih =>
   intro h1 h2
   cases e:h.get? n with
   | some o=>exact ⟨n+1,h1,n,o,rfl,e⟩
   | none =>
    refine ih (fun a o q=>?_) h2
    rcases Nat.lt_or_ge a n with l | l
    ·exact l
    ·rw [Nat.le_antisymm (Nat.le_of_lt_succ (h1 a o q)) l,e] at q
     exact no q
 exact key h.objs.size fun a o e=>Heap.lt_size e
section
variable {X:Cx} {Φ Φ':Fns} {Ar:Around} {d e:Nat} {B:Addr→Prop} {s:Shared} {nm:Nms} {D:Sig} {a fI C:Addr} {fd:FuncData}
theorem Bs.less (V:Bs (Fr.of X Φ Ar e B) s) (h:d≤e):Bs (Fr.of X Φ' Ar d B) s:=⟨V.K,V.R.less h,V.g,V.fresh,V.sub⟩
theorem Pf.more (P:Pf X Φ Ar d) (h:d≤e):Pf X Φ Ar e :=
 ⟨fun f vs ps r s B e V rl=>P.fn f vs ps r s B e (V.less h) rl,fun f vs ps r s B e V rl=>P.me f vs ps r s B e (V.less h) rl,fun f vs ps xs s B e V rl K tp hK Q E q=>P.gen f vs ps xs s B e (V.less h) rl K tp hK Q E fun it W S s₁ x I=>q it W S s₁ x
  ⟨I.new,I.mutd,I.start,I.keep,I.item,I.done,I.self⟩,fun f v vs ps r s B hv e V rl=>P.x f v vs ps r s B hv e (V.less h) rl,fun f T vs ps r s B F₀ F₁ e V rl h0 h1 t=>P.hi f T vs ps r s B F₀ F₁ e (V.less h) rl h0 h1 t⟩
noncomputable def zeroF:Fns:=⟨fun _ _=>none,fun _ _=>none,fun _ _=>none,fun _ _=>none,fun _ _ _=>none⟩
theorem pf_zero:Pf X zeroF Ar d:=⟨fun _ _ _ _ _ _ e=>no e,fun _ _ _ _ _ _ e=>no e,fun _ _ _ _ _ _ e=>no e,fun _ _ _ _ _ _ _ _ e=>no e,fun _ _ _ _ _ _ _ _ _ e=>no e⟩
def FnOk (X:Cx) (ev:Fns→List PV→Option PV) (v:Value):Prop:=∀ (Φ:Fns) (Ar:Around) (d:Nat) (B:Addr→Prop) (s:Shared) (vs:List Value) (ps:List PV) (r:PV),(∀ Ar,Room Ar d→Pf X Φ Ar d)→Bs (Fr.of X Φ Ar (d+20) B) s→Mine.RepL s.heap B ps vs→ev Φ ps=some r→Gets (Fr.of X Φ Ar (d+20) B) s r (call v vs)
def GnOk (X:Cx) (ev:Fns→List PV→Option (List PV)) (v:Value):Prop:=∀ (Φ:Fns) (Ar:Around) (d:Nat) (B:Addr→Prop) (s:Shared) (vs:List Value) (ps xs:List PV),(∀ Ar,Room Ar d→Pf X Φ Ar d)→Bs (Fr.of X Φ Ar (d+20) B) s→Mine.RepL s.heap B ps vs→ev Φ ps=some xs→∀ (K:Addr→Prop) (tp:Bool),(∀ a,B a→K a)→GetsIt (Fr.of X Φ Ar (d+20) B) K s tp xs (call v vs)
def HiOk (X:Cx) (ev:Fns→List PV→Option PV) (v:Value):Prop:=∀ (Φ:Fns) (Ar:Around) (d:Nat) (B:Addr→Prop) (s:Shared) (vs:List Value) (ps:List PV) (r:PV) (F₀ F₁:Value),(∀ Ar,Room Ar (d+19)→Pf X Φ Ar (d+19))→Bs (Fr.of X Φ Ar (d+20) B) s→Mine.RepL s.heap B ps vs→X.xv 0=some F₀→X.xv 1=some F₁→ev Φ ps=some r→Gets (Fr.of X Φ Ar (d+20) B) s r (call v (vs++[F₀,F₁]))
structure Lib where
 fn:List (Fns→List PV→Option PV)
 me:List (Fns→List PV→Option PV)
 gen:List (Fns→List PV→Option (List PV))
 hi:List (Nat × (Fns→List PV→Option PV))
noncomputable def hiAt (l:List (Nat × (Fns→List PV→Option PV))) (f:Nat):Option (Fns→List PV→Option PV):=List.rec none (fun p _ ih=>bif Nat.beq p.1 f then some p.2 else ih) l
noncomputable def plainly (o:Option PV):Option PV:=o.bind fun r=>bif scal r then some r else none
noncomputable def Fns.with (Φ:Fns) (T:Nat→(Nat→List PV→Option PV)→List PV→Option PV):Fns:=⟨Φ.fn,Φ.me,Φ.gen,fun i ps=>plainly (T i Φ.fn ps),Φ.hi⟩
noncomputable def Lib.up (L:Lib) (Φ:Fns):Fns:=⟨fun f ps=>L.fn[f]?.bind fun ev=>ev Φ ps,fun f ps=>L.me[f]?.bind fun ev=>ev Φ ps,fun f ps=>L.gen[f]?.bind fun ev=>ev Φ ps,fun _ _=>none,fun f T ps=>(hiAt L.hi f).bind fun ev=>ev (Φ.with T) ps⟩
noncomputable def Lib.lev (L:Lib) (k:Nat):Fns:=Nat.rec zeroF (fun _ Φ=>L.up Φ) k
structure LibOk (X:Cx) (L:Lib):Prop where
 fn:∀ f ev,L.fn[f]?=some ev→FnOk X ev (X.fv f)
 me:∀ f ev,L.me[f]?=some ev→FnOk X ev (X.mv f)
 gen:∀ f ev,L.gen[f]?=some ev→GnOk X ev (X.gv f)
 hi:∀ f ev,hiAt L.hi f=some ev→HiOk X ev (X.fv f)
noncomputable def Cx.hand (X:Cx) (h:Heap) (N:Nat) (F₀ F₁:Value):Cx:={ X with N:=N,L₀:=X.V,G:=fun h'=>X.G h'∧ExtOn X.V h h',xv:=fun i=>bif Nat.beq i 0 then some F₀ else bif Nat.beq i 1 then some F₁ else none }
structure Top (X:Cx) (h:Heap) (N:Nat):Prop where
 lt:∀ a o,h.get? a=some o→a < N
 le:X.N≤N
 at':∃ a o,N=a+1∧X.N≤a∧h.get? a=some o
theorem top_is {h:Heap} (t:∃ a o,X.N≤a∧h.get? a=some o):∃ N,Top X h N:=by
 obtain ⟨a,o,n,e⟩:=t
 obtain ⟨N,l,b,o',rfl,e'⟩:=top_addr ⟨a,o,e⟩
 have nb:X.N≤b:=Nat.le_trans n (Nat.le_of_lt_succ (l a o e))
 exact ⟨_,l,Nat.le_succ_of_le nb,b,o',rfl,nb,e'⟩
theorem hand_V {h:Heap} {N:Nat} {F₀ F₁:Value} (le:X.N≤N) {a:Addr}:(X.hand h N F₀ F₁).V a ↔ X.V a:=⟨fun q=>Or.elim q (fun n=>.inl (Nat.le_trans le n)) id,.inr⟩
theorem hand_in {h:Heap} {N:Nat} {F₀ F₁:Value} (le:X.N≤N) {s s':Shared} (q:ExtOn X.V h s.heap) (y:Stp X X.V s s'):Stp (X.hand h N F₀ F₁) (X.hand h N F₀ F₁).V s s' :=
 ⟨fun a o k e=>y.off a o ((hand_V le).mp k) e,fun g=>⟨y.G g.1,fun a o k e=>y.off a o k (q a o k e)⟩,y.gens,y.bare,y.os⟩
theorem hand_size {h:Heap} {N:Nat} (t:Top X h N) {g:Heap} (q:ExtOn X.V h g):N≤g.objs.size:=by
 obtain ⟨a,o,e,n,z⟩:=t.at'
 rw [e]; exact Heap.lt_size (q a o (.inl n) z)
theorem hand_fn {h:Heap} {N:Nat} {F₀ F₁:Value} (t:Top X h N) {s s':Shared} (q:ExtOn X.V h s.heap) {F:Addr} (hs:s.heap.objs.size≤F) (st:FnStands X s'.heap F fd):FnStands (X.hand h N F₀ F₁) s'.heap F fd:=by
 obtain ⟨c,oc,vs,t',h1,h2,h3,h4,h5,h6⟩:=st.code
 exact ⟨st.obj,Nat.le_trans (hand_size t q) hs,c,oc,vs,t',h1,h2,h3,h4,h5,(hand_V t.le).mpr h6⟩
theorem hand_ok {h:Heap} {N:Nat} {F₀ F₁:Value} {T:Nat→(Nat→List PV→Option PV)→List PV→Option PV} (K:CxOk X) (t:Top X h N) (h0:HandOk X h (T 0) F₀) (h1:HandOk X h (T 1) F₁):CxOk (X.hand h N F₀ F₁) where
 Gk:=fun g g' W q hW x=>⟨K.Gk g g' W q.1 (fun a w=>⟨Nat.le_trans t.le (hW a w).1,(hW a w).2⟩) x,fun a o v e=>x a o (fun w=>absurd (t.lt a o e) (Nat.not_lt.mpr (hW a w).1)) (q.2 a o v e)⟩
 nolimit:=fun g q=>K.nolimit g q.1
 size:=fun g q=>hand_size t q.2
 g:=fun g q=>K.g g q.1
 b:=fun g q=>K.b g q.1
 fns:=K.fns
 gens:=K.gens
 flts:=K.flts
 inams:=K.inams
 blt:=K.blt
 callw:=fun f x hf Ar pos first trees Q E s hn hh g=>K.callw f x hf Ar pos first trees Q E s hn (wpAny_mono hh (fun vs s₁ q=>⟨q.1.1,q.2⟩) fun _ _ e=>e) g.1
 callg:=fun f x hf Ar pos first trees Q E s hn hh g=>K.callg f x hf Ar pos first trees Q E s hn (wpAny_mono hh (fun vs s₁ q=>⟨q.1.1,q.2⟩) fun _ _ e=>e) g.1
 callx:=fun f v e Ar pos trees Q E s hn hh g=>by
  have e:(bif Nat.beq f 0 then some F₀ else bif Nat.beq f 1 then some F₁ else none)=some v:=e
  cases c0:Nat.beq f 0 with
  | true =>
   rw [c0] at e
   obtain rfl:=Option.some.inj e
   exact h0.cw Ar pos trees Q E s hn hh g.1
  | false =>
   rw [c0] at e
   cases c1:Nat.beq f 1 with
   | true =>
    rw [c1] at e
    obtain rfl:=Option.some.inj e
    exact h1.cw Ar pos trees Q E s hn hh g.1
   | false=>rw [c1] at e; exact no e
 lam:=fun c pos q m params body scope Ar env clos s Q E g hge hcode hcl k=>K.lam c pos q m params body scope Ar env clos s Q E g.1 hge hcode hcl fun F fd s' y hs st hd=>k F fd s' (hand_in t.le g.2 y) hs (hand_fn t g.2 hs st) hd
 attr:=fun i x hx Ar B s ov fs p Q E g r e k=>K.attr i x hx Ar B s ov fs p Q E g.1 r e k
 umeth:=fun f x hf Ar B s o apos pos env ov fs n trees Q E g r h1 h2 h3 hh=>K.umeth f x hf Ar B s o apos pos env ov fs n trees Q E g.1 r h1 h2 h3 (wpAny_mono hh (fun vs s₁ q=>⟨q.1.1,q.2⟩) fun _ _ e=>e)
 cat:=fun f w x y hf hx Ar s Q E g k=>K.cat f w x y hf hx Ar s Q E g.1 k
theorem hand_out {h:Heap} {N:Nat} {F₀ F₁:Value} (le:X.N≤N) {s s':Shared} (q:ExtOn X.V h s.heap) (y:Stp (X.hand h N F₀ F₁) (X.hand h N F₀ F₁).V s s'):Stp X X.V s s' :=
 ⟨fun a o k e=>y.off a o ((hand_V le).mpr k) e,fun g=>(y.G ⟨g,q⟩).1,y.gens,y.bare,y.os⟩
theorem hand_mk {h:Heap} {N:Nat} {F₀ F₁:Value} (t:Top X h N) {code:Value} {name:Str} {params:Arguments} {body:List Stmt} {scope:Scope} {pos:Pos} {qual:Str} (mk:MkFn X code name params body scope pos qual):MkFn (X.hand h N F₀ F₁) code name params body scope pos qual :=
 fun Ar env clos s Q E g hge hcode hcl k=>mk Ar env clos s Q E g.1 hge hcode hcl fun F fd s' y hs st hd=>k F fd s' (hand_in t.le g.2 y) hs (hand_fn t g.2 hs st) hd
structure Fam (P:Cx→Prop) (L:Lib):Prop where
 ok:∀ X,P X→LibOk X L
 hand:∀ X h N F₀ F₁,P X→Top X h N→P (X.hand h N F₀ F₁)
theorem plainly_is {o:Option PV} {r:PV} (e:plainly o=some r):o=some r∧scal r=true:=onBind e fun p e1 e2=>by
 cases c:scal p with
 | true =>
  rw [c] at e2
  obtain rfl:=Option.some.inj e2
  exact ⟨e1,c⟩
 | false=>rw [c] at e2; exact no e2
theorem hand_x {h:Heap} {N:Nat} {F₀ F₁:Value} {T:Nat→(Nat→List PV→Option PV)→List PV→Option PV} (K:CxOk X) (t:Top X h N) (h0:HandOk X h (T 0) F₀) (h1:HandOk X h (T 1) F₁) (P:Pf (X.hand h N F₀ F₁) Φ Ar (d+19)) (PW:∀ Ar,Room Ar d→PfFn X Φ.fn Ar d):Pf (X.hand h N F₀ F₁) (Φ.with T) Ar (d+19) where
 fn:=fun f vs ps r s B e V rl=>P.fn f vs ps r s B e (V.less (Nat.le_refl _)) rl
 me:=fun f vs ps r s B e V rl=>P.me f vs ps r s B e (V.less (Nat.le_refl _)) rl
 gen:=fun f vs ps xs s B e V rl K tp hK Q E q=>P.gen f vs ps xs s B e (V.less (Nat.le_refl _)) rl K tp hK Q E fun it W S s₁ x I=>q it W S s₁ x ⟨I.new,I.mutd,I.start,I.keep,I.item,I.done,I.self⟩
 hi:=fun f T vs ps r s B F₀ F₁ e V rl h0 h1 t=>P.hi f T vs ps r s B F₀ F₁ e (V.less (Nat.le_refl _)) rl h0 h1 t
 x:=fun f v vs ps r s B ev e V rl=>by
  obtain ⟨e,hs⟩:=plainly_is (show plainly (T f Φ.fn ps)=some r from e)
  have V':Bs (Fr.of X Φ Ar (d+19) X.V) s:=⟨K,V.R,V.g.1,fun a n _=>.inl n,fun a q=>q⟩
  have rl':Mine.RepL s.heap X.V ps vs:=Mine.RepL.move (fun a o b e=>⟨(hand_V t.le).mp (V.sub a b),e⟩) rl
  have fin:∀ F,HandOk X h (T f) F→v=F→Gets (Fr.of (X.hand h N F₀ F₁) (Φ.with T) Ar (d+19) B) s r (call v vs):=fun F H q Q E k=>q▸H.go Φ.fn d PW Φ Ar X.V s vs ps r e V' V.g.2 rl' Q E fun w s' y rr=>k w s' (hand_in t.le V.g.2 y) (scal_rep hs rr)
  have ev:(bif Nat.beq f 0 then some F₀ else bif Nat.beq f 1 then some F₁ else none)=some v:=ev
  cases c0:Nat.beq f 0 with
  | true =>
   rw [c0] at ev
   obtain rfl:=Nat.eq_of_beq_eq_true c0
   exact fin F₀ h0 (Option.some.inj ev).symm
  | false =>
   rw [c0] at ev
   cases c1:Nat.beq f 1 with
   | true =>
    rw [c1] at ev
    obtain rfl:=Nat.eq_of_beq_eq_true c1
    exact fin F₁ h1 (Option.some.inj ev).symm
   | false=>rw [c1] at ev; exact no ev
theorem lev_ok {L:Lib} {P:Cx→Prop} (O:Fam P L):∀ (k:Nat) {X:Cx},P X→∀ (Ar:Around),Room Ar (20 * k)→Pf X (L.lev k) Ar (20 * k)
 | 0,X,hX,Ar,R=>pf_zero
 | k+1,X,hX,Ar,R=>⟨fun f vs ps r s B e V rl=>onBind e fun ev e1 e2=>(O.ok X hX).fn f ev e1 (L.lev k) Ar (20 * k) B s vs ps r (lev_ok O k hX) (V.less (Nat.le_refl _)) rl e2,
  fun f vs ps r s B e V rl=>onBind e fun ev e1 e2=>(O.ok X hX).me f ev e1 (L.lev k) Ar (20 * k) B s vs ps r (lev_ok O k hX) (V.less (Nat.le_refl _)) rl e2,
  fun f vs ps xs s B e V rl K tp hK Q E q=>onBind e fun ev e1 e2=>(O.ok X hX).gen f ev e1 (L.lev k) Ar (20 * k) B s vs ps xs (lev_ok O k hX) (V.less (Nat.le_refl _)) rl e2 K tp hK Q E fun it W S s₁ x I=>q it W S s₁ x ⟨I.new,I.mutd,I.start,I.keep,I.item,I.done,I.self⟩,
  fun _ _ _ _ _ _ _ _ e=>no e,
  fun f T vs ps r s B F₀ F₁ e V rl h0 h1 t Q E q=>onBind e fun ev e1 e2=>by
   obtain ⟨N,t⟩:=top_is t
   have PX:=O.hand X s.heap N F₀ F₁ hX t
   refine (O.ok _ PX).hi f ev e1 ((L.lev k).with T) Ar (20 * k) B s vs ps r F₀ F₁ (fun Ar R=>hand_x V.K t h0 h1 ((lev_ok O k PX Ar (R.less (Nat.le_add_right _ _))).more (Nat.le_add_right _ _)) fun Ar R Φ=>?_) ⟨hand_ok V.K t h0 h1,V.R,⟨V.g,fun _ _ _ e=>e⟩,fun a n e=>V.fresh a (Nat.le_trans t.le n) e,fun a b=>.inr (V.sub a b)⟩ rl rfl rfl e2 Q E fun v s' y rr=>q v s' (hand_out t.le (fun _ _ _ e=>e) y) rr
   exact fun f vs ps r s B e V rl=>(lev_ok O k hX Ar R).fn f vs ps r s B e (V.less (Nat.le_refl _)) rl⟩
theorem fn_def {body:SL (D.sc nm)} (A:FnAt X a fd) (DO:DefOk fd D body.sts) (hnm:X.nm=nm):FnOk X (defEv D body) (.ref a):=fun Φ Ar d B s vs ps r P V rl e =>
 def_ok (Z:=Fr.of X Φ Ar (d+20) B) (d:=d+19) V A DO rfl hnm (fun Ar R=>(P Ar (R.less (Nat.le_add_right d 19))).more (Nat.le_add_right d 19)) rl e
theorem fn_gen {b:GB (D.sc nm)} (A:FnAt X a fd) (DO:GenOk fd D b.sts) (hnm:X.nm=nm):GnOk X (genEv D b) (.ref a):=fun Φ Ar d B s vs ps xs P V rl e K tp hK =>
 gen_ok (Z:=Fr.of X Φ Ar (d+20) B) (d:=d+17) V A DO rfl hnm (fun Ar R=>(P Ar (R.less (Nat.le_add_right d 17))).more (Nat.le_add_right d 17)) rl e K tp
theorem fn_ws {x:WsC (D.sc nm)} (hn:[x.a0.nm,x.a1.nm,x.a2.nm,x.a3.nm,x.a4.nm]=fieldNames) (A:FnAt X fI fd) (DO:DefOk fd D x.sts) (hnm:X.nm=nm) {K:Frag} (W:WsK K C fI) (hK:∀ h,X.G h→K.In h):FnOk X (wsEv D x C) (.ref C):=fun Φ Ar d B s vs ps r P V rl e =>
 ws_ok (Z:=Fr.of X Φ Ar (d+20) B) (d:=d+18) hn V A DO rfl hnm (fun Ar R=>(P Ar (R.less (Nat.le_add_right d 18))).more (Nat.le_add_right d 18)) W hK rl e
theorem fn_defS {par loc:List Str} {x:DefS (D.sc nm) par loc} (N:NestOk x.nest par loc) (A:FnAt X a fd) (DO:DefOk fd D x.sts) (hnm:X.nm=nm) (hl:∃ y∈D.params++D.locals,D.names.lookup y=some .local)
  (mk:MkFn X fd.code x.t.x x.ip x.b.sts x.isc x.ipos (fd.qualname++".<locals>."++x.t.x)):FnOk X (fun _=>defSEv D x 18 zeroF) (.ref a):=fun Φ Ar d B s vs ps r P V rl e =>
 defS_ok (Z:=Fr.of X zeroF Ar (d+20) B) (d:=d+19) N (V.less (Nat.le_refl _)) A DO rfl (Nat.le_trans (by decide:18≤19) (Nat.le_add_left 19 d)) hnm (fun Ar d R=>pf_zero) hl mk rl e
theorem fn_defE {par loc:List Str} {x:DefE (D.sc nm) par loc} (N:NestOk x.nest par loc) (A:FnAt X a fd) (DO:DefOk fd D x.sts) (hnm:X.nm=nm)
  (mk:MkFn X fd.code x.t.x x.ip x.b.sts x.isc x.ipos (fd.qualname++".<locals>."++x.t.x)):FnOk X (fun _=>defEEv D x 18 zeroF) (.ref a):=fun Φ Ar d B s vs ps r P V rl e =>
 defE_ok (Z:=Fr.of X zeroF Ar (d+20) B) (d:=d+19) N (V.less (Nat.le_refl _)) A DO rfl (Nat.le_trans (by decide:18≤19) (Nat.le_add_left 19 d)) hnm (fun Ar d R=>pf_zero) mk rl e
end
end Mine
end
section
open PySem PySem.W PyProof.Rows
namespace Mine
theorem zip_missing:∀ (xs:List Str) (vs:List Value),vs.length=xs.length→xs.filter (fun n=>((xs.zip vs).lookup n).isNone)=[]:=fun xs vs hl=>by
 rw [List.filter_eq_nil_iff]
 intro x hx
 simp only [Option.isNone_iff_eq_none]
 intro h
 have:=List.lookup_eq_none_iff.mp h
 obtain ⟨i,hi,rfl⟩:=List.mem_iff_getElem.mp hx
 have:=this (xs[i],vs[i]'(hl▸hi)) (by
  apply List.mem_iff_getElem.mpr
  exact ⟨i,by rw [List.length_zip,hl,Nat.min_self]; exact hi,by rw [List.getElem_zip]⟩)
 simp at this
theorem zip_lookup':∀ (xs:List Str) (vs:List Value) (f:Str→Option Value),xs.Nodup→vs.length=xs.length→(∀ x∈xs,f x=(xs.zip vs).lookup x)→xs.filterMap (fun n=>(f n).map (n,·))=xs.zip vs
 | [],vs,f,_,_,_=>rfl
 | x::xs,[],f,_,hl,_=>nomatch hl
 | x::xs,v::vs,f,hn,hl,hf=>by
  have hx:=hf x List.mem_cons_self
  rw [List.zip_cons_cons,List.lookup_cons_self] at hx
  rw [List.filterMap_cons,hx,List.zip_cons_cons]
  refine congrArg ((x,v)::·) (zip_lookup' xs vs f (List.nodup_cons.mp hn).2 (Nat.succ.inj hl) fun y hy=>?_)
  rw [hf y (List.mem_cons_of_mem _ hy),List.zip_cons_cons,List.lookup_cons]
  have:(y==x)=false:=beq_eq_false_iff_ne.mpr fun q=>(List.nodup_cons.mp hn).1 (q▸hy)
  rw [this]
theorem bind_plain {fd:FuncData} {xs:List Str} (h1:fd.params.posonlyargs=[]) (h2:fd.params.args.map (·.arg)=xs) (h3:fd.params.vararg=none) (h4:fd.params.kwonlyargs=[]) (h5:fd.params.kwarg=none) (h6:fd.defaults=.none) (hn:xs.Nodup) (vs:List Value) (hl:vs.length=xs.length) :
  bindArgs fd ⟨vs,[]⟩=pure (xs.zip vs):=by
 have hs:seqItems? Value.none=pure none:=rfl
 have hm:=zip_missing xs vs hl
 have hz:=zip_lookup' xs vs _ hn hl fun _ _=>rfl
 unfold bindArgs
 simp only [h1,h2,h3,h4,h5,h6,hs]
 simp [hl,hm,hz]
abbrev Par:=List Arg × List Str × Option Arg × List Arg × Option Arg
abbrev Face:=(ScopeKind × List (Str × NameKind) × Bool × Bool) × FuncBody × Par × Value × List (Str × Addr) × Addr × Addr
def parOf (a:Arguments):Par:=(a.posonlyargs,a.args.map (·.arg),a.vararg,a.kwonlyargs,a.kwarg)
def faceOf (fd:FuncData):Face:=((fd.scope.kind,fd.scope.names,fd.scope.isGenerator,fd.scope.isCoroutine),fd.body,parOf fd.params,fd.defaults,fd.closure,fd.globals,fd.builtins)
def plainPar (xs:List Str):Par:=([],xs,none,[],none)
noncomputable def Sig.face (D:Sig) (g:Bool) (sts:List Stmt):Face:=((.function,D.names,g,false),.stmts sts,plainPar D.params,.none,[],mainGlobals,builtinsNs)
noncomputable def nodupB:List Str→Bool
 | []=>true
 | x::xs=>!xs.contains x&&nodupB xs
theorem nodupB_is:∀ {xs:List Str},nodupB xs=true→xs.Nodup
 | [],_=>List.nodup_nil
 | x::xs,h=>List.nodup_cons.mpr ⟨fun m=>by
   have:=not_eq (both (show (!xs.contains x&&nodupB xs)=true from h)).1
   rw [List.contains_iff_mem.mpr m] at this
   exact (nomatch this),nodupB_is (both (show (!xs.contains x&&nodupB xs)=true from h)).2⟩
noncomputable def Sig.ok (D:Sig):Bool:=nodupB (D.params++D.locals)&&(D.names.all (fun x=>!(x.2==.free))&&(D.params++D.locals).all fun x=>D.names.lookup x==some .local || D.names.lookup x==some .cell)
noncomputable def Sig.okG (D:Sig):Bool:=nodupB (D.params++D.locals)&&(D.own.isNone&&(D.params++D.locals).all fun x=>D.names.lookup x==some .local)
section
variable {fd:FuncData} {D:Sig} {sts:List Stmt} {g:Bool}
structure FaceOk (fd:FuncData) (D:Sig) (g:Bool) (sts:List Stmt):Prop where
 kind:fd.scope.kind=.function
 names:fd.scope.names=D.names
 gen:fd.scope.isGenerator=g
 co:fd.scope.isCoroutine=false
 body:fd.body=.stmts sts
 par:parOf fd.params=plainPar D.params
 dflt:fd.defaults=.none
 clo:fd.closure=[]
 glob:fd.globals=mainGlobals
 blt:fd.builtins=builtinsNs
theorem face_is (h:faceOf fd=D.face g sts):FaceOk fd D g sts :=
 ⟨congrArg (·.1.1) h,congrArg (·.1.2.1) h,congrArg (·.1.2.2.1) h,congrArg (·.1.2.2.2) h,congrArg (·.2.1) h,congrArg (·.2.2.1) h,congrArg (·.2.2.2.1) h,congrArg (·.2.2.2.2.1) h,congrArg (·.2.2.2.2.2.1) h,congrArg (·.2.2.2.2.2.2) h⟩
theorem par_bind (h:parOf fd.params=plainPar D.params) (hd:fd.defaults=.none) (hn:D.params.Nodup) (vs:List Value) (hl:vs.length=D.params.length):bindArgs fd ⟨vs,[]⟩=pure (D.params.zip vs) :=
 bind_plain (congrArg (·.1) h) (congrArg (·.2.1) h) (congrArg (·.2.2.1) h) (congrArg (·.2.2.2.1) h) (congrArg (·.2.2.2.2) h) hd hn vs hl
theorem def_face (h:faceOf fd=D.face false sts) (k:D.ok=true) (w:∀ c q,D.own=some (c,q)→fd.code=.ref c∧fd.qualname++".<locals>."=q):DefOk fd D sts:=by
 have F:=face_is h
 have hn:=nodupB_is (both k).1
 exact ⟨F.names,F.kind,F.co,F.gen,F.body,F.clo,F.glob,F.blt,hn,fun x q=>by
  have:=List.all_eq_true.mp (both (both k).2).1 _ (mem_of_lookup q)
  exact (nomatch (show (!(NameKind.free==NameKind.free))=true from this)),fun x m=>List.all_eq_true.mp (both (both k).2).2 x m,par_bind F.par F.dflt (List.nodup_append.mp hn).1,w⟩
theorem gen_face (h:faceOf fd=D.face true sts) (k:D.okG=true):GenOk fd D sts:=by
 have F:=face_is h
 have hn:=nodupB_is (both k).1
 exact ⟨F.names,F.kind,F.co,F.gen,F.body,F.clo,F.glob,F.blt,hn,fun x m=>eq_of_beq (List.all_eq_true.mp (both (both k).2).2 x m),par_bind F.par F.dflt (List.nodup_append.mp hn).1,Option.isNone_iff_eq_none.mp (both (both k).2).1⟩
end
noncomputable def Nest.ok {sc:SC} {ib:List Stmt} (n:Nest sc ib) (par loc:List Str):Bool :=
 (n.t.ok sc&&(sc.N.lookup n.t.x==some .cell&&(scopeOk sc n.isc&&(n.ip.defaults.isEmpty&&n.ip.kw_defaults.isEmpty))))&&((n.ip.args.all (·.annotation.isNone)&&(!n.isc.isCoroutine&&!n.isc.isGenerator))&&((nodupB (par++loc)&&(par++loc).all fun x=>n.isc.names.lookup x==some .local)&&((n.isc.names.all fun x=>!(x.2==.cell))&&(n.isc.names.lookup ("":Str)==none&&Nat.blt 0 (par++loc).length))))
theorem ann_none (env:Env):∀ as:List Arg,as.all (·.annotation.isNone)=true→annotationsOf as env=[]
 | [],_=>rfl
 | ⟨x,none,p⟩::as,h=>ann_none env as (both h).2
 | ⟨x,some a,p⟩::as,h=>nomatch (both h).1
theorem nest_ok {sc:SC} {ib:List Stmt} {n:Nest sc ib} {par loc:List Str} (h:n.ok par loc=true) (hp:parOf n.ip=plainPar par):NestOk n par loc:=by
 obtain ⟨h1,h2⟩:=both h
 obtain ⟨a1,h1⟩:=both h1
 obtain ⟨a2,h1⟩:=both h1
 obtain ⟨a3,h1⟩:=both h1
 obtain ⟨a4,a5⟩:=both h1
 obtain ⟨h2,h3⟩:=both h2
 obtain ⟨b1,h2⟩:=both h2
 obtain ⟨b2,b3⟩:=both h2
 obtain ⟨h3,h4⟩:=both h3
 obtain ⟨c1,c2⟩:=both h3
 obtain ⟨d1,h4⟩:=both h4
 obtain ⟨d2,d3⟩:=both h4
 have hn:=nodupB_is c1
 refine ⟨a1,eq_of_beq a2,a3,List.isEmpty_iff.mp a4,List.isEmpty_iff.mp a5,fun env=>?_,not_eq b2,not_eq b3,hn,fun x m=>eq_of_beq (List.all_eq_true.mp c2 x m),fun x k m q=>?_,eq_of_beq d2,Nat.blt_eq.mp d3,fun qual clos doc pm cd ctv vs hv=>?_⟩
 ·have p1:=congrArg (·.1) hp
  have p2:=congrArg (·.2.2.1) hp
  have p3:=congrArg (·.2.2.2.1) hp
  have p4:=congrArg (·.2.2.2.2) hp
  revert p1 p2 p3 p4 b1
  generalize n.ip=ip
  obtain ⟨po,as,va,ko,kd,kwa,df⟩:=ip
  intro b1 p1 p2 p3 p4
  obtain rfl:po=[]:=p1
  obtain rfl:va=none:=p2
  obtain rfl:ko=[]:=p3
  obtain rfl:kwa=none:=p4
  unfold annTrees
  simp only [Option.toList_none,List.append_nil]
  rw [ann_none env as b1]
  rfl
 ·have:=List.all_eq_true.mp d1 _ m
  rw [q] at this
  exact nomatch (show (!(NameKind.cell==NameKind.cell))=true from this)
 ·exact bind_plain (fd:=fnX n.t.x qual n.ip ib n.isc clos .none .none doc pm none cd ctv) (congrArg (·.1) hp) (congrArg (·.2.1) hp) (congrArg (·.2.2.1) hp) (congrArg (·.2.2.2.1) hp) (congrArg (·.2.2.2.2) hp) rfl (List.nodup_append.mp hn).1 vs hv
end Mine
end
section
open PySem PySem.W PyProof.Rows PySem.Calls
namespace Mine
def isTab (o:Obj):Bool:=match o.cls,o.data with
 | .none,.fields _=>true
 | _,_=>false
def pick (as:List Addr) (h:Heap):Frag:=as.filterMap fun a=>(h.get? a).bind fun o=>bif isTab o then none else some (a,o)
theorem pick_is {as:List Addr} {h:Heap} {a:Addr} {o:Obj} (e:(pick as h).lookup a=some o):h.get? a=some o∧o≠tabObj #[]:=by
 obtain ⟨b,_,q⟩:=List.mem_filterMap.mp (mem_of_lookupK e)
 refine onBind q fun o' e1 e2=>?_
 cases t:isTab o' with
 | true=>rw [t] at e2; exact no e2
 | false =>
  rw [t] at e2
  obtain ⟨rfl,rfl⟩:=Prod.mk.inj (Option.some.inj e2)
  exact ⟨e1,fun z=>by rw [z] at t; exact (nomatch t)⟩
def fdIn (K:Frag) (a:Addr):Option FuncData:=match K.lookup a with
 | some ⟨_,_,.func fd,_⟩=>some fd
 | _=>none
theorem fdIn_is {K:Frag} {a:Addr} {fd:FuncData} (h:fdIn K a=some fd):∃ o,K.lookup a=some o∧o.data=.func fd:=by
 unfold fdIn at h
 split at h <;> cases h
 rename_i hk
 exact ⟨_,hk,rfl⟩
def codeB (K:Frag) (a:Addr):Bool:=(fdIn K a).any fun fd=>codeIn K fd.code fd.qualname
def nestB (K:Frag) (a:Addr) (t:Tab) (x:Str):Bool:=(fdIn K a).any fun fd=>(fd.code==.ref t.c)&&(fd.qualname++".<locals>."++x==t.qual)
def faceIn (K:Frag) (a:Addr):Option Face:=(fdIn K a).map faceOf
theorem any_is {α:Type} {o:Option α} {x:α} {f:α→Bool} (h:o.any f=true) (e:o=some x):f x=true:=by rw [e] at h; exact h
section
variable {X:Cx} {K:Frag} {a:Addr} {fd:FuncData} {D:Sig} {sts:List Stmt} {F:Face}
theorem fn_at (hK:∀ h,X.G h→K.In h) (e:fdIn K a=some fd) (c:codeB K a=true):FnAt X a fd:=by
 obtain ⟨o,e1,e2⟩:=fdIn_is e
 exact ⟨fun h g=>⟨o,hK h g _ _ e1,e2⟩,fun h g=>codeRec_of (hK h g) (any_is (f:=fun fd:FuncData=>codeIn K fd.code fd.qualname) c e)⟩
theorem face_at (h:faceIn K a=some F):∃ fd,fdIn K a=some fd∧faceOf fd=F:=Option.map_eq_some_iff.mp h
noncomputable def ownB (K:Frag) (a:Addr) (o:Option (Addr × Str)):Bool:=Option.casesOn (motive:=fun _=>Bool) o true fun cq=>(fdIn K a).any fun fd=>(fd.code==.ref cq.1)&&(fd.qualname++".<locals>."==cq.2)
theorem ownB_is {o:Option (Addr × Str)} (h:ownB K a o=true) (e:fdIn K a=some fd) (c:Addr) (q:Str) (eo:o=some (c,q)):fd.code=.ref c∧fd.qualname++".<locals>."=q:=by
 subst eo
 have:=both (any_is (f:=fun fd:FuncData=>(fd.code==.ref c)&&(fd.qualname++".<locals>."==q)) h e)
 exact ⟨eq_of_beq this.1,eq_of_beq this.2⟩
theorem def_at (hK:∀ h,X.G h→K.In h) (h:faceIn K a=some (D.face false sts)) (c:codeB K a=true) (k:D.ok=true) (w:ownB K a D.own=true):∃ fd,fdIn K a=some fd∧FnAt X a fd∧DefOk fd D sts :=
 let ⟨fd,e1,e2⟩:=face_at h; ⟨fd,e1,fn_at hK e1 c,def_face e2 k (ownB_is w e1)⟩
theorem gen_at (hK:∀ h,X.G h→K.In h) (h:faceIn K a=some (D.face true sts)) (c:codeB K a=true) (k:D.okG=true):∃ fd,FnAt X a fd∧GenOk fd D sts :=
 let ⟨fd,e1,e2⟩:=face_at h; ⟨fd,fn_at hK e1 c,gen_face e2 k⟩
theorem nest_at {t:Tab} {x:Str} (h:nestB K a t x=true) (e:fdIn K a=some fd):fd.code=.ref t.c∧fd.qualname++".<locals>."++x=t.qual:=by
 have:=both (any_is (f:=fun fd:FuncData=>(fd.code==.ref t.c)&&(fd.qualname++".<locals>."++x==t.qual)) h e)
 exact ⟨eq_of_beq this.1,eq_of_beq this.2⟩
end
def nsRefB (K:Frag) (x:Str) (a:Addr):Bool:=(match nsIn K mainGlobals x with | some (some (.ref b))=>Nat.beq b a | _=>false)&&keepIn K (.ref a)
def nsFltB (K:Frag) (x:Str) (f:UInt64):Bool:=match nsIn K mainGlobals x with | some (some (.float b _))=>b==f | _=>false
def nsIntB (K:Frag) (x:Str) (i:Int):Bool:=match nsIn K mainGlobals x with | some (some (.int b _))=>b==i | _=>false
def nsNoneB (K:Frag) (x:Str):Bool:=match nsIn K mainGlobals x with | some none=>true | _=>false
def refB (f:Option (Option Value)) (a:Addr):Bool:=match f with | some (some (.ref b))=>Nat.beq b a | _=>false
theorem refB_is {f:Option (Option Value)} {a:Addr} (h:refB f a=true):f=some (some (.ref a)):=by
 unfold refB at h
 split at h <;> first | (rw [Nat.eq_of_beq_eq_true h]) | exact nomatch h
def strB (f:Option CFound) (x:Str):Bool:=match f with | some (.val (.str y _))=>y==x | _=>false
theorem strB_is {f:Option CFound} {x:Str} (h:strB f x=true):∃ t,f=some (.val (.str x t)):=by
 unfold strB at h
 split at h <;> first | cases h | skip
 rename_i y t
 exact ⟨t,by rw [eq_of_beq h]⟩
section
variable {K:Frag} {h:Heap} {mg:Str→Option Value} (X:K.In h) (G:h.Ns mainGlobals mg)
include X G
theorem nsRefB_is {x:Str} {a:Addr} (e:nsRefB K x a=true):mg x=some (.ref a)∧keepIn K (.ref a)=true:=by
 obtain ⟨e1,e2⟩:=both e
 split at e1 <;> first | cases e1 | skip
 rename_i b hb
 exact ⟨by rw [← Nat.eq_of_beq_eq_true e1]; exact mg_of X G hb,e2⟩
theorem nsFltB_is {x:Str} {f:UInt64} (e:nsFltB K x f=true):∃ t,mg x=some (.float f t):=by
 unfold nsFltB at e
 split at e <;> first | cases e | skip
 rename_i b t hb
 exact ⟨t,by rw [← eq_of_beq e]; exact mg_of X G hb⟩
theorem nsIntB_is {x:Str} {i:Int} (e:nsIntB K x i=true):∃ t,mg x=some (.int i t):=by
 unfold nsIntB at e
 split at e <;> first | cases e | skip
 rename_i b t hb
 exact ⟨t,by rw [← eq_of_beq e]; exact mg_of X G hb⟩
theorem nsNoneB_is {x:Str} (e:nsNoneB K x=true):mg x=none:=by
 unfold nsNoneB at e
 split at e <;> first | cases e | skip
 rename_i hb
 exact mg_none_of X G hb
end
noncomputable def allPairs {α β:Type} (f:α→β→Bool):List α→List β→Bool
 | [],[]=>true
 | a::as,b::bs=>f a b&&allPairs f as bs
 | _,_=>false
theorem allPairs_at {α β:Type} {f:α→β→Bool} {d:β}:∀ {as:List α} {bs:List β} {i:Nat} {a:α},allPairs f as bs=true→as[i]?=some a→f a (bs.getD i d)=true
 | [],[],i,a,_,e=>nomatch e
 | x::as,y::bs,0,a,h,e=>Option.some.inj e▸(both h).1
 | x::as,y::bs,i+1,a,h,e=>allPairs_at (as:=as) (bs:=bs) (i:=i) (d:=d) (both h).2 e
 | [],_::_,_,_,h,_=>nomatch h
 | _::_,[],_,_,h,_=>nomatch h
noncomputable def methB (K:Frag) (C:Addr) (x:Str) (a:Addr):Bool:=refB (findIn K (.ref C) x) a&&((match typeIn K (.ref a) with | some (.type t)=>t=="function" | _=>false)&&(keepIn K (.ref a)&&!(fieldNames.contains x)))
theorem methB_is {K:Frag} {C:Addr} {x:Str} {a:Addr} (h:methB K C x a=true):findIn K (.ref C) x=some (some (.ref a))∧typeIn K (.ref a)=some (.type "function")∧keepIn K (.ref a)=true∧x ∉ fieldNames:=by
 obtain ⟨h1,h2⟩:=both h
 obtain ⟨h2,h3⟩:=both h2
 obtain ⟨h3,h4⟩:=both h3
 refine ⟨refB_is h1,?_,h3,fun q=>?_⟩
 ·split at h2 <;> first | cases h2 | skip
  rename_i t ht
  rw [ht,eq_of_beq h2]
 ·have h4:=not_eq h4
  rw [List.contains_iff_mem.mpr q] at h4; exact nomatch h4
noncomputable def wsB (K:Frag) (C fI:Addr):Bool :=
 (makesIn K C&&(refB (findIn K (.ref C) "__init__") fI&&(match typeIn K (.ref fI) with | some (.type t)=>t=="function" | _=>false))) &&
 (((match findIn K (.ref C) "__setattr__" with | some (some (.builtin t))=>t=="object.__setattr__" | _=>false)&&(plainOver K C&&(fieldNames.all fun x=>match findIn K (.ref C) x with | some none=>true | _=>false))) &&
 (((clsIn K C).any (·.hasDict)&&(match findIn K (.ref C) "__getattribute__" with | some (some (.builtin t))=>t=="object.__getattribute__" | _=>false)) &&
 (((match findIn K (.ref C) "__getattr__" with | some none=>true | _=>false)&&readsIn K C (.type "type"))&&(strB (findCls K (.ref C) (.type "type") "S") " "&&strB (findCls K (.ref C) (.type "type") "T") "\t"))))
theorem wsB_is {K:Frag} {C fI:Addr} (h:wsB K C fI=true):WsK K C fI:=by
 obtain ⟨h1,h⟩:=both h
 obtain ⟨a1,h1⟩:=both h1
 obtain ⟨a2,a3⟩:=both h1
 obtain ⟨h2,h⟩:=both h
 obtain ⟨b1,h2⟩:=both h2
 obtain ⟨b2,b3⟩:=both h2
 obtain ⟨h3,h⟩:=both h
 obtain ⟨c1,c2⟩:=both h3
 obtain ⟨h4,h5⟩:=both h
 obtain ⟨d1,d2⟩:=both h4
 obtain ⟨e1,e2⟩:=both h5
 refine ⟨a1,refB_is a2,?_,?_,b2,fun x m=>?_,c1,?_,?_,d2,strB_is e1,strB_is e2⟩
 ·split at a3 <;> first | cases a3 | skip
  rename_i t ht
  rw [ht,eq_of_beq a3]
 ·split at b1 <;> first | cases b1 | skip
  rename_i t ht
  rw [ht,eq_of_beq b1]
 ·have:=List.all_eq_true.mp b3 x m
  split at this <;> first | cases this | skip
  assumption
 ·split at c2 <;> first | cases c2 | skip
  rename_i t ht
  rw [ht,eq_of_beq c2]
 ·split at d1 <;> first | cases d1 | skip
  assumption
end Mine
end
section
open PySem PySem.W PyProof.Rows PySem.Calls
namespace Mine
noncomputable def namesB (nm:Nms) (K:Frag) (addrs gaddrs maddrs:List Addr):Bool :=
 (allPairs (nsRefB K) nm.fns addrs&&(allPairs (nsRefB K) nm.gens gaddrs&&(nm.flts.all (fun x=>nsFltB K x.1 x.2)&&nm.inams.all fun x=>nsIntB K x.1 x.2))) &&
 ((bltNames.all (nsNoneB K)&&allPairs (methB K nm.cls) nm.ms maddrs)&&nm.cats.all fun c=>Nat.beq (addrs.getD c.1 0) nm.cls&&strB (findCls K (.ref nm.cls) (.type "type") c.2.1) c.2.2)
noncomputable def mkPlace (prog:Program) (w:World) (h₁:Heap) (N:Nat) (l₀:Addr) (tabs:List Tab) (K:Frag) (mg mb:Str→Option Value) (nm:Nms) (addrs gaddrs maddrs:List Addr):Place where
 prog:=prog
 w:=w
 h₁:=h₁
 N:=N
 l₀:=l₀
 tabs:=tabs
 K:=K
 mg:=mg
 mb:=mb
 nm:=nm
 fv:=fun f=>.ref (addrs.getD f 0)
 gv:=fun f=>.ref (gaddrs.getD f 0)
 mv:=fun f=>.ref (maddrs.getD f 0)
section
variable {prog:Program} {w:World} {h₁:Heap} {tabs:List Tab} {K:Frag} {mg mb:Str→Option Value} {nm:Nms} {addrs gaddrs maddrs:List Addr} {fI:Addr} {N l₀:Nat}
theorem mkPlace_ok (hN:(∀ a o,h₁.get? a=some o→a < N)∧∃ a o,N=a+1∧h₁.get? a=some o) (X:∀ a o,K.lookup a=some o→h₁.get? a=some o∧o≠tabObj #[]) (g:h₁.Ns mainGlobals mg) (b:h₁.Ns builtinsNs mb) (nl:h₁.NoLimit) (hb:∀ x:Str,x≠"__name__"→mb x=bootBuiltins x)
  (bm:∃ bm ob,mg "__builtins__"=some (.ref bm)∧bm≠builtinsNs∧h₁.get? bm=some ob∧ob.cls=.type "module"∧ob.dict=some builtinsNs∧ob.data=.plain)
  (tab:∀ t∈tabs,h₁.get? t.P=some (tabObj #[])) (hd:tabs.all (fun t=>codeHdIn K t.c t.P)=true) (apart:∀ t∈tabs,∀ t'∈tabs,t.P=t'.P→t=t'∨(t.pos.line==t'.pos.line&&t.pos.col==t'.pos.col)=false)
  (W:wsB K nm.cls fI=true) (k:namesB nm K addrs gaddrs maddrs=true):PlaceOk (mkPlace prog w h₁ N l₀ tabs K mg mb nm addrs gaddrs maddrs) fI:=by
 have XI:K.In h₁:=fun a o e=>(X a o e).1
 obtain ⟨n1,n2⟩:=both k
 obtain ⟨a1,n1⟩:=both n1
 obtain ⟨a2,n1⟩:=both n1
 obtain ⟨a3,a4⟩:=both n1
 obtain ⟨n2,a7⟩:=both n2
 obtain ⟨a5,a6⟩:=both n2
 refine ⟨⟨hN.1,hN.2,tab,fun t ht=>codeHd_of_K XI (List.all_eq_true.mp hd t ht),apart,X,g,b,nl,hb,bm⟩,wsB_is W,fun f x e=>nsRefB_is XI g (allPairs_at a1 e),fun f x e=>nsRefB_is XI g (allPairs_at a2 e),fun x b e=>nsFltB_is XI g (List.all_eq_true.mp a3 _ (mem_of_lookup e)),fun x b e=>nsIntB_is XI g (List.all_eq_true.mp a4 _ (mem_of_lookup e)),fun x hx=>nsNoneB_is XI g (List.all_eq_true.mp a5 x hx),fun f x e=>?_,fun f x y m=>?_⟩
 ·obtain ⟨m1,m2,m3,m4⟩:=methB_is (allPairs_at (d:=0) a6 e)
  exact ⟨_,rfl,m1,m2,m3,m4⟩
 ·have:=both (List.all_eq_true.mp a7 _ m)
  exact ⟨congrArg Value.ref (Nat.eq_of_beq_eq_true this.1),strB_is this.2⟩
theorem good_end {p:Place} {s₁ s':Shared} (O:PlaceOk p fI) (h1:p.h₁=s₁.heap) (hg:s₁.gens=#[]) (x:Stp p.X p.X.V s₁ s'):OldK s₁.heap s'.heap∧s'.os=s₁.os∧AllBare s'.gens:=by
 have B₀:=Base.start O.S
 have S:=O.S
 rw [h1] at B₀ S
 have B:Base s₁.heap p.N p.tabs s'.heap:=by
  have:=x.G (show p.X.G s₁.heap by show Base p.h₁ _ _ _; rw [h1]; exact B₀)
  rw [← h1]; exact this
 have kp:∀ b o,s₁.heap.get? b=some o→(∃ t∈p.tabs,b=t.P)∨s'.heap.get? b=some o:=fun b o e=>by
  by_cases q:∃ t∈p.tabs,b=t.P
  ·exact .inl q
  ·exact .inr (B.old' b o e fun t ht z=>q ⟨t,ht,z⟩)
 refine ⟨⟨fun b o e=>(kp b o e).symm.imp id ?_,fun b o e=>(kp b o e).elim (fun ⟨t,ht,q⟩=>?_) fun q=>⟨o,q⟩⟩,x.os,x.bare (AllBare.of_eq hg)⟩
 ·rintro ⟨t,ht,rfl⟩
  have e0:=S.tab t ht
  rw [e] at e0
  obtain rfl:=Option.some.inj e0
  obtain ⟨ps,e1,_⟩:=B.tab t ht
  obtain ⟨oc,vs,_,_,_,_,_,_,_,c1,c2,c3,c4,_⟩:=S.hd t ht
  refine .inl ⟨⟨t.c,oc,vs,c1,c2,c3,c4⟩,rfl,#[],ps,rfl,?_⟩
  rw [e1]
  simp [tabObj]
 ·obtain ⟨ps,e1,_⟩:=B.tab t ht
  exact ⟨_,q▸e1⟩
end
theorem lst_obj {P:Params} {h:Heap} {a:Addr} {vs:List Value} {xs:List WData} (W:Well P h (.ref a) (.list xs)) (hl:h.IsList a vs.toArray):∃ n,h.get? a=some (lstO vs n):=by
 cases W with
 | list ha wa =>
  obtain ⟨o,ho,_,n,hd⟩:=hl
  rw [ha] at ho; cases ho
  obtain ⟨e,_⟩:=Data.seq.inj hd
  obtain rfl:=List.toArray_inj e
  exact ⟨_,ha⟩
end Mine
end
section
open PySem PySem.W PyProof.Rows
namespace Mine
section
variable {sc:SC}
noncomputable def SO.add (x:SW sc) (y:SE sc) (p:Pos):SO sc:=⟨.BinOp x.e .Add y.e p,fun Φ σ=>(x.ev Φ σ).bind fun xs=>(y.ev Φ σ).bind fun q=>q.lst?.bind fun ys=>bif fits (xs.length+ys.length) then some (xs++ys) else none,
 fun {Z σ ws s zs} V e Q E h=>onBind e fun xs e1 e=>onBind e fun q e2 e=>onBind e fun ys e3 e=>by
  cases hc:fits (xs.length+ys.length) with
  | false=>rw [hc] at e; exact no e
  | true =>
   rw [hc] at e
   obtain rfl:=Option.some.inj e
   refine wpAny_BinOp (x.go V e1 fun v vs s₁ x₁ V₁ l r₁=>y.go V₁ e2 fun w s₂ x₂ V₂ r₂=>?_)
   obtain ⟨a,n,rfl,_,g⟩:=l.stp x₂
   have r₁':=r₁.stp V₁.sub x₂
   refine Fr.Rep.lst r₂ e3 (M:=fun w=>wpAny Z.X.M Z.Ar (binaryOp .Add (.ref a) w) Q E s₂) fun b m us _ g' rl=>PySem.P.add_list (items:=vs.toArray) (items2:=us.toArray) (n:=n) (n2:=m) g g' ?_ (r₁'.size▸rl.size▸le_line (fits_le hc))
   rw [List.append_toArray]
   have z:s.heap.get? s₂.heap.objs.size=none:=(x₁.trans x₂).live (.inl (V₂.K.size _ V₂.g)) (get_size _)
   exact h _ _ 0 _ ((x₁.trans x₂).trans V₂.toBs.push) z (V₂.K.size _ V₂.g) (Heap.get?_push_size _ rfl) (Mine.RepL.move (fun b o k e=>⟨⟨k,fun z=>none_at (z▸get_size _) ⟨o,e⟩⟩,Heap.get?_push_of_some _ e⟩) (Mine.RepL.append rl r₁'))⟩
noncomputable def SE.tupX (x:SW sc) (p1 p:Pos) (hg:isGlob sc "tuple"=true):SE sc:=⟨.Call (.Name "tuple" p1) [x.e] [] p,fun Φ σ=>(x.ev Φ σ).bind fun xs=>bif fits xs.length then some (.tup xs) else none,⟨fun _ _=>rfl,fun op=>by cases op <;> rfl,fun _ _=>rfl⟩,
 fun {Z σ ws s r} V e Q E q=>onBind e fun xs e1 e=>onIf (M:=fun r=>(∀ v s',Stp Z.X Z.X.V s s'→Z.Rep s'.heap r v→Q v s')→_) e (fun c q=>wpAny_Call_NameR (blt_name V hg (v:=.type "tuple") (by decide +kernel) (by decide +kernel) (by
  rw [show starEach [x.e] Z.env=[(false,eval x.e Z.env)] from x.pl.st _ _]
  refine PySem.callWith_type rfl (Calls.evalArgs_plain (Calls.spliced_cons (x.go V e1 fun v vs s₁ x₁ V₁ l rl=>Calls.spliced_nil ?_)))
  obtain ⟨a,n,rfl,_,g⟩:=l
  refine call_tuple_list (lst_is g) (fun h' hk=>?_) (rl.size▸le_line (fits_le c))
  have na:Z.B h'.objs.size:=V₁.fresh _ (V₁.K.size _ ((V₁.toBs.ext (h':=h') (tk:=s₁.toks) (K:=Z.X.V) (g:=0) hk).G V₁.g)) (by
   cases q:s₁.heap.get? h'.objs.size with
   | none=>rfl
   | some o=>have:=hk _ _ q; rw [get_size] at this; exact no this)
  exact V₁.toBs.at (s:=s₁) (fun b o e=>Heap.get?_push_of_some _ (hk b o e)) (Rep.mkTup na (Heap.get?_push_size _ rfl) (rl.ext fun b o e=>Heap.get?_push_of_some _ (hk b o e))) fun v s' st rr=>q v s' (x₁.trans st) rr))) q⟩
noncomputable def SL.cut (sts:List Stmt):SL sc:=⟨sts,fun _ _=>none,fun _ e=>no e⟩
end
end Mine
end
section
open PySem PySem.W PyProof.Rows
namespace Mine
section
variable {sc:SC}
noncomputable def swapsC (t:Tg) (c:Cp sc):Bool:=sc.N.lookup t.x==some .local&&(t.p.line==c.pos.line&&!(c.scope.names.any fun x=>x.1==t.x&&(x.2==.local || x.2==.cell)))
theorem swaps_comp {t:Tg} {c:Cp sc} {line:Nat} {b:Bool} (hb:swapsC t c=b) (env:Env) (h1:env.scope.kind=.function) (h2:env.scope.names=sc.N):swapsWith c.e (some (.Name t.x t.p)) line env=pure b:=by
 show pure (env.blockKind==.function&&env.kindOf t.x==some .local&&t.p.line==c.pos.line&&!(c.scope.names.any fun x=>x.1==t.x&&(x.2==.local || x.2==.cell)))=pure b
 have e1:env.blockKind=.function:=by unfold Env.blockKind; rw [h1]; rfl
 have e2:env.kindOf t.x=sc.N.lookup t.x:=by show env.scope.names.lookup t.x=_; rw [h2]
 rw [e1,e2,← hb]
 unfold swapsC
 rw [Bool.and_assoc,Bool.and_assoc]
 rfl
theorem setNames {Z:Fr} {σ':List Slot} {Q:Unit→Shared→Prop} {E:Value→Shared→Prop} (EO:EnvOk Z.env sc Z.ls):∀ (ts:List Tg) (ps:List PV) (vs:List Value) (σ:List Slot) (ws:Nat→Option Value) (s:Shared),ts.all (Tg.ok sc)=true→(∀ t∈ts,t.i < Z.wr)→Dy Z σ ws s→setL ts ps σ=some σ'→Z.RepL s.heap ps vs →
   (∀ ws' s',Stp Z.X Z.K s s'→Dy Z σ' ws' s'→Q () s')→wpAny Z.X.M Z.Ar (assignInOrder (ts.map fun t=>bindName Z.env t.x) vs) Q E s
 | [],[],vs,σ,ws,s,_,_,D,e,r,q=>by
  obtain rfl:vs=[]:=r
  exact wpAny_pure (q ws s .refl (Option.some.inj e▸D))
 | t::ts,p::ps,vs,σ,ws,s,ho,hw,D,e,r,q=>by
  obtain ⟨v,vs,rfl,r1,r2⟩:=r
  have ho:=both (a:=t.ok sc) (b:=ts.all (Tg.ok sc)) ho
  show wpAny _ _ (do holding vs (bindName Z.env t.x v); assignInOrder (ts.map fun t=>bindName Z.env t.x) vs) Q E s
  exact wpAny_bind (wpAny_holding (wpAny_bindName (storeV D EO ho.1 (hw t List.mem_cons_self) r1 fun ws₁ s₁ x₁ D₁=>setNames EO ts ps vs _ ws₁ s₁ ho.2 (fun t m=>hw t (List.mem_cons_of_mem _ m)) D₁ e (Fr.RepL.stpK r2 D x₁) fun ws₂ s₂ x₂ D₂=>q ws₂ s₂ (x₁.trans x₂) D₂)))
 | [],_::_,_,_,_,_,_,_,_,e,_,_=>no e
 | _::_,[],_,_,_,_,_,_,_,e,_,_=>no e
noncomputable def SS.tupsR (ts:List Tg) (k k':Nat) (pp p':Pos) (as:List (SE sc)) (pos:Pos) (h:ts.reverse.all (Tg.ok sc)=true) (hs:swappedStores [.Tuple (ts.map Tg.e) 0 noPos] (.Tuple (exprs as) 0 noPos) (scEnv sc)=pure (some (ts.map Tg.x))):SS sc :=
 ⟨.Assign [.Tuple (ts.map Tg.e) k pp] (SE.tup as k' p').e pos,fun Φ σ=>((SE.tup as k' p').ev Φ σ).bind fun p=>p.tup?.bind fun ps=>(setL ts.reverse ps.reverse σ).map .next,
 fun {Z σ ws s o} V e Q E q=>onBind e fun p e1 e=>onBind e fun ps e2 e=>onMap e fun σ' e3 e4=>by
  subst e4
  have hs':swappedStores [.Tuple (ts.map Tg.e) k pp] (SE.tup as k' p').e Z.env=pure (some (ts.map Tg.x)):=(swaps_same V.EO.kind V.EO.names).trans hs
  rw [exec_Assign_arm]
  refine wpAny_bind (wpAny_standAt ?_)
  rw [show swapsWithSole [.Tuple (ts.map Tg.e) k pp] (SE.tup as k' p').e pos.line Z.env=pure false from rfl]
  refine wpAny_bind (wpAny_pure ?_)
  rw [if_neg (by decide)]
  refine wpAny_bind ((SE.tup as k' p').go V.toEv e1 fun w s₁ x₁ V₁ r₁=>?_)
  have V₁:=V.step x₁
  rw [hs']
  refine wpAny_bind (wpAny_pure ?_)
  obtain ⟨a,n,vs,rfl,g,rl⟩:∃ a n vs,w=.ref a∧s₁.heap.get? a=some (tupO vs n)∧Z.RepL s₁.heap ps vs:=Fr.Rep.tup r₁ e2 (M:=fun w=>∃ a n vs,w=.ref a∧s₁.heap.get? a=some (tupO vs n)∧Z.RepL s₁.heap ps vs) fun a n vs _ g rl=>⟨a,n,vs,rfl,g,rl⟩
  have hl:ts.length=vs.length:=by
   have:=setL_len e3
   rw [List.length_reverse,List.length_reverse] at this
   rw [this,rl.len]
  show wpAny Z.X.M Z.Ar (do
   rule "assign.swapped-stores"
   let items ← unpackItems (.ref a) (ts.map Tg.x).length none
   assignInOrder ((ts.map Tg.x).reverse.map fun n=>bindName Z.env n) items.reverse
   pure .next) Q E s₁
  rw [List.length_map,hl]
  refine wpAny_bind (wpAny_rule (wpAny_bind (unpack_rule V₁.R.hh ⟨a,rfl,.inl (tup_is g)⟩ fun h' tk hk=>?_)))
  have x₂:Stp Z.X Z.X.V s₁ { s₁ with heap:=h',toks:=tk }:=V₁.toBs.ext hk
  have en:((ts.map Tg.x).reverse.map fun n=>bindName Z.env n)=ts.reverse.map fun t=>bindName Z.env t.x:=by
   rw [← List.map_reverse,List.map_map]; rfl
  rw [en]
  exact wpAny_bind (setNames V.EO ts.reverse ps.reverse vs.reverse σ ws _ h (V.tos h) (V₁.step x₂).toDy e3 (Mine.RepL.rev (rl.ext hk)) fun ws₃ s₃ x₃ D₃=>wpAny_pure (goesOn V ((x₁.trans x₂).toK.trans x₃) D₃ q))⟩
end
end Mine
end
section
open PySem PySem.W PyProof.Rows
namespace Mine
namespace L
def bodyAt (p:Program) (i:Nat):List Stmt:=match p.main.body[i]? with
 | some (.FunctionDef _ _ b _ _ _ _ _ _ _)=>b
 | _=>[]
section
variable {sc:SC}
noncomputable abbrev v (i:Nat) (x:Str) (p:Pos) (h:isVar sc i x=true:=by kernel_rfl):SE sc:=.var i x p h
noncomputable abbrev ow (i:Nat) (x:Str) (p:Pos) (h:isVar sc i x=true:=by kernel_rfl):SW sc:=.own i x p h
noncomputable abbrev gf (x:Str) (b:UInt64) (p:Pos) (h:isGlob sc x=true:=by kernel_rfl) (hx:sc.nm.flts.lookup x=some b:=by kernel_rfl):SE sc:=.gflt x b p h hx
noncomputable abbrev gi (x:Str) (b:Int) (p:Pos) (h:isGlob sc x=true:=by kernel_rfl) (hx:sc.nm.inams.lookup x=some b:=by kernel_rfl):SE sc:=.gint x b p h hx
noncomputable abbrev bi (b:BN) (as:List (SE sc)) (p1 p:Pos) (hg:isGlob sc b.x=true:=by kernel_rfl):SE sc:=.bi b as p1 p hg
noncomputable abbrev biX (b:BN) (a:SX sc) (p1 p:Pos) (hs:∀ ps r,b.f ps=some r→scal r=true) (hg:isGlob sc b.x=true:=by kernel_rfl):SE sc:=.biX b a p1 p hg hs
noncomputable abbrev tupX (x:SW sc) (p1 p:Pos) (hg:isGlob sc "tuple"=true:=by kernel_rfl):SE sc:=.tupX x p1 p hg
noncomputable abbrev me (m:MN) (o:SX sc) (as:List (SX sc)) (p1 p:Pos) (hs:∀ x env t,attributeBase o.e x env t=t:=by exact fun _ _ _=>rfl) (hl:(p1.endLine==p.line)=true:=by kernel_rfl) (hz:Nat.ble as.length 1=true:=by kernel_rfl):SE sc:=.meth m o as p1 p hs hl hz
noncomputable abbrev attr (i:Nat) (x:Str) (o:SE sc) (p:Pos) (hx:fieldNames[i]?=some x:=by kernel_rfl) (hs:∀ x env t,attributeBase o.e x env t=t:=by exact fun _ _ _=>rfl):SE sc:=.attr i x o p hx hs
noncomputable abbrev cat (f:Nat) (w x y:Str) (p1 p:Pos) (hf:sc.nm.fns[f]?=some w:=by kernel_rfl) (hx:(sc.nm.cats.contains (f,x,y))=true:=by kernel_rfl) (hg:isGlob sc w=true:=by kernel_rfl):SE sc:=.cat f w x y p1 p hf (List.contains_iff_mem.mp hx) hg
noncomputable abbrev call (f:Nat) (x:Str) (as:List (SE sc)) (p1 p:Pos) (hx:sc.nm.fns[f]?=some x:=by kernel_rfl) (hg:isGlob sc x=true:=by kernel_rfl):SE sc:=.call f x as p1 p hx hg
noncomputable abbrev um (f:Nat) (x:Str) (o:SE sc) (as:List (SE sc)) (p1 p:Pos) (hx:sc.nm.ms[f]?=some x:=by kernel_rfl) (hs:∀ x env t,attributeBase o.e x env t=t:=by exact fun _ _ _=>rfl) (hl:(p1.endLine==p.line)=true:=by kernel_rfl) (hz:Nat.blt as.length 30=true:=by kernel_rfl):SE sc:=.umeth f x o as p1 p hx hs hl hz
noncomputable abbrev tst (x:SX sc) (h:∀ env,isTrue x.e env (eval x.e env)=(do let v ← eval x.e env; standAt x.e.pos; holding [v] (truthy v)):=by exact fun _=>rfl):SB sc:=.of x h
noncomputable abbrev tg1 (t:Tg) (h:t.ok sc=true:=by kernel_rfl):SP sc:=.one t h
noncomputable abbrev tgn (ts:List Tg) (k:Nat) (pp:Pos) (h:ts.all (Tg.ok sc)=true:=by kernel_rfl):SP sc:=.many ts k pp h
noncomputable abbrev rg1 (b:SE sc) (p1 p:Pos) (hg:isGlob sc "range"=true:=by kernel_rfl):SI sc:=.range1 b p1 p hg
noncomputable abbrev rg2 (a b:SE sc) (p1 p:Pos) (hg:isGlob sc "range"=true:=by kernel_rfl):SI sc:=.range2 a b p1 p hg
noncomputable abbrev enm (b:SE sc) (p1 p:Pos) (hg:isGlob sc "enumerate"=true:=by kernel_rfl):SI sc:=.enum b p1 p hg
noncomputable abbrev rvd (b:SE sc) (p1 p:Pos) (hg:isGlob sc "reversed"=true:=by kernel_rfl):SI sc:=.rev b p1 p hg
noncomputable abbrev zp2 (a b:SE sc) (p1 p:Pos) (hg:isGlob sc "zip"=true:=by kernel_rfl):SI sc:=.zip2 a b p1 p hg
noncomputable abbrev gen (f:Nat) (x:Str) (as:List (SE sc)) (p1 p:Pos) (hx:sc.nm.gens[f]?=some x:=by kernel_rfl) (hg:isGlob sc x=true:=by kernel_rfl):SI sc:=.gen f x as p1 p hx hg
noncomputable abbrev cp (scope:Scope) (it:SI sc) (tg:SP (compSC sc scope)) (ifs:SF (compSC sc scope)) (elt:SE (compSC sc scope)) (pos:Pos) (h:(scopeOk sc scope&&(tg.ts.all (fun t=>Nat.blt t.i (compVars scope).length)&&(!it.need || tg.tp)))=true:=by kernel_rfl):Cp sc:=⟨scope,it,tg,ifs,elt,pos,h⟩
noncomputable abbrev st (t:Tg) (v:SE sc) (pos:Pos) (h:t.ok sc=true:=by kernel_rfl) (hs:∀ env:Env,swapsWith v.e (some (.Name t.x t.p)) pos.line env=pure false:=by exact fun _=>rfl):SS sc:=.set t v pos h fun env _ _=>hs env
noncomputable abbrev stc (t:Tg) (c:Cp sc) (pos:Pos) (h:t.ok sc=true:=by kernel_rfl) (hs:swapsC t c=false:=by kernel_rfl):SS sc:=.set t (.comp c) pos h (swaps_comp hs)
noncomputable abbrev sa (t u:Tg) (ts:List Tg) (v:SE sc) (pos:Pos) (h:(t::u::ts).all (Tg.ok sc)=true:=by kernel_rfl):SS sc:=.setAll t u ts v pos h
noncomputable abbrev mv (tp:Bool) (ts:List Tg) (k:Nat) (pp:Pos) (v:SE sc) (pos:Pos) (h:ts.all (Tg.ok sc)=true:=by kernel_rfl) (hs:∀ env:Env,env.scope.kind=.function→env.scope.names=sc.N→swappedStores [.Tuple (ts.map Tg.e) k pp] v.e env=pure none:=by exact fun _ _ _=>rfl):SS sc:=.many tp ts k pp v pos h hs
noncomputable abbrev tu (ts:List Tg) (k k':Nat) (pp p':Pos) (as:List (SE sc)) (pos:Pos) (h:ts.all (Tg.ok sc)=true:=by kernel_rfl) (hs:swappedStores [.Tuple (ts.map Tg.e) 0 noPos] (.Tuple (exprs as) 0 noPos) (scEnv sc)=pure none:=by kernel_rfl):SS sc:=.tups ts k k' pp p' as pos h hs
noncomputable abbrev tr (ts:List Tg) (k k':Nat) (pp p':Pos) (as:List (SE sc)) (pos:Pos) (h:ts.reverse.all (Tg.ok sc)=true:=by kernel_rfl) (hs:swappedStores [.Tuple (ts.map Tg.e) 0 noPos] (.Tuple (exprs as) 0 noPos) (scEnv sc)=pure (some (ts.map Tg.x)):=by kernel_rfl):SS sc:=.tupsR ts k k' pp p' as pos h hs
noncomputable abbrev so (t:Tg) (v:SO sc) (pos:Pos) (h:t.ok sc=true:=by kernel_rfl) (hs:∀ env,swapsWith v.e (some (.Name t.x t.p)) pos.line env=pure false:=by exact fun _=>rfl):SS sc:=.setOwn t v pos h hs
noncomputable abbrev scp (ow:Bool) (t:Tg) (c:Cp sc) (pos:Pos) (h:t.ok sc=true:=by kernel_rfl) (hs:swapsC t c=true:=by kernel_rfl):SS sc:=.setComp ow t c pos h (swaps_comp hs)
noncomputable abbrev au {op:Operator} (b:I2 op) (t:Tg) (v:SE sc) (pos:Pos) (h:t.ok sc=true:=by kernel_rfl) (hv:isVar sc t.i t.x=true:=by kernel_rfl):SS sc:=.aug b t v pos h hv
noncomputable abbrev ap (i:Nat) (x:Str) (p a pos pos':Pos) (v:SE sc) (hm:isVar sc i x=true:=by kernel_rfl) (hl:(a.endLine==pos.line)=true:=by kernel_rfl):SS sc:=.app i x p a pos pos' v hm hl
noncomputable abbrev rv (i:Nat) (x:Str) (p a pos pos':Pos) (hm:isVar sc i x=true:=by kernel_rfl) (hl:(a.endLine==pos.line)=true:=by kernel_rfl):SS sc:=.rev i x p a pos pos' hm hl
noncomputable abbrev si (i:Nat) (x:Str) (p p':Pos) (ix v:SE sc) (pos:Pos) (hm:isVar sc i x=true:=by kernel_rfl) (hs:∀ env,swapsWith v.e (some (.Subscript (.Name x p) ix.e p')) pos.line env=pure false:=by exact fun _=>rfl):SS sc:=.setItem i x p p' ix v pos hm hs
noncomputable abbrev ai {op:Operator} (b:I2 op) (i:Nat) (x:Str) (p p':Pos) (ix v:SE sc) (pos:Pos) (hm:isVar sc i x=true:=by kernel_rfl) (hix:∀ ov iv new,augStore ix.e ov iv new=(do holding [new,ov,iv] (PySem.setItem ov iv new); release [new,ov,iv] []; pure .next):=by exact fun _ _ _=>rfl):SS sc:=.augItem b i x p p' ix v pos hm hix
noncomputable abbrev fr (tg:SP sc) (it:SI sc) (body:SL sc) (pos:Pos) (h:(tg.ts.all (Tg.ok sc)&&(!it.need || tg.tp))=true:=by kernel_rfl):SS sc:=.for tg it body pos h
noncomputable abbrev zi (t:Tg) (i:Int) (k:Nat) (p pos:Pos) (h:t.ok sc=true:=by kernel_rfl):SZ sc:=.int t i k p pos h
noncomputable abbrev zb (t:Tg) (i:Bool) (k:Nat) (p pos:Pos) (h:t.ok sc=true:=by kernel_rfl):SZ sc:=.bool t i k p pos h
noncomputable abbrev gb (pre:List (SZ sc)) (i:Nat) (x:Str) (p1 p2 p3 pos:Pos) (tg:SP sc) (body post:GL sc) (h:(isVar sc i x&&(isGlob sc "enumerate"&&(tg.tp&&tg.ts.all (Tg.ok sc))))=true:=by kernel_rfl):GB sc:=⟨pre,i,x,p1,p2,p3,pos,tg,body,post,h⟩
noncomputable abbrev clS (t:SB sc) (base:SS sc) (rp ip:Pos) (rest:SL sc) (a1 a2:List (SE sc)) (i1 i2:Nat) (y1 y2:Str) (q1 q2 q3 q4 q5 q6:Pos) (h:(isVar sc i1 y1&&isVar sc i2 y2)=true:=by kernel_rfl):CloS sc:=⟨t,base,rp,ip,rest,a1,a2,i1,i2,y1,y2,q1,q2,q3,q4,q5,q6,h⟩
noncomputable abbrev clE (t:SB sc) (base:SE sc) (rp ip:Pos) (rest:SL sc) (a1 a2:List (SE sc)) (sh:SE sc) (i1 i2:Nat) (y1 y2:Str) (q1 q2 q3 q4 q5 q6 q7:Pos) (h:(isVar sc i1 y1&&isVar sc i2 y2)=true:=by kernel_rfl):CloE sc:=⟨t,base,rp,ip,rest,a1,a2,sh,i1,i2,y1,y2,q1,q2,q3,q4,q5,q6,q7,h⟩
noncomputable abbrev dS {par loc:List Str} (first:SS sc) (isc:Scope) (b:CloS (closSC sc isc (par++loc))) (t:Tg) (ip:Arguments) (ipos:Pos) (tst:SB sc) (i:Nat) (y:Str) (as:List (SE sc)) (p1 p2 p3 p4:Pos) (last:SL sc) (h:isVar sc i y=true:=by kernel_rfl):DefS sc par loc:=⟨first,isc,b,t,ip,ipos,tst,i,y,as,p1,p2,p3,p4,last,h⟩
noncomputable abbrev dE {par loc:List Str} (isc:Scope) (b:CloE (closSC sc isc (par++loc))) (t:Tg) (ip:Arguments) (ipos:Pos) (tst:SB sc) (els:SE sc) (i:Nat) (y:Str) (as:List (SE sc)) (p1 p2 p3 p4:Pos) (h:isVar sc i y=true:=by kernel_rfl):DefE sc par loc:=⟨isc,b,t,ip,ipos,tst,els,i,y,as,p1,p2,p3,p4,h⟩
noncomputable abbrev asg (v:SE sc) (nm self:Str) (p0 p1 pos:Pos) (hv:isVar sc 0 self=true:=by kernel_rfl):AS sc:=⟨v,nm,self,p0,p1,pos,hv⟩
noncomputable abbrev ws (a0:AS sc) (m1 m2 m3:SS sc) (tg:SP sc) (self:Str) (p0 p1:Pos) (body:SL sc) (pos:Pos) (a1 a2 a3 a4:AS sc) (hv:isVar sc 0 self=true:=by kernel_rfl) (ht:tg.ts.all (Tg.ok sc)=true:=by kernel_rfl):WsC sc:=⟨a0,m1,m2,m3,tg,self,p0,p1,body,pos,a1,a2,a3,a4,hv,ht⟩
end
end L
end Mine
end
section
open PySem PySem.W PyProof.Rows
namespace Mine
section
variable {X:Cx} {K:Frag} {D:Sig} {a:Addr} {nm:Nms}
theorem mk_def {body:SL (D.sc nm)} (hK:∀ h,X.G h→K.In h) (hnm:X.nm=nm) (e:faceIn K a=some (D.face false body.sts)) (c:codeB K a=true) (k:D.ok=true) (w:ownB K a D.own=true):FnOk X (defEv D body) (.ref a) :=
 let ⟨_,_,A,DO⟩:=def_at hK e c k w; fn_def A DO hnm
theorem mk_gen {b:GB (D.sc nm)} (hK:∀ h,X.G h→K.In h) (hnm:X.nm=nm) (e:faceIn K a=some (D.face true b.sts)) (c:codeB K a=true) (k:D.okG=true):GnOk X (genEv D b) (.ref a) :=
 let ⟨_,A,DO⟩:=gen_at hK e c k; fn_gen A DO hnm
theorem mk_ws {x:WsC (D.sc nm)} {C:Addr} (hK:∀ h,X.G h→K.In h) (hnm:X.nm=nm) (hn:[x.a0.nm,x.a1.nm,x.a2.nm,x.a3.nm,x.a4.nm]=fieldNames) (W:wsB K C a=true) (e:faceIn K a=some (D.face false x.sts)) (c:codeB K a=true) (k:D.ok=true) (w:ownB K a D.own=true):FnOk X (wsEv D x C) (.ref C) :=
 let ⟨_,_,A,DO⟩:=def_at hK e c k w; fn_ws hn A DO hnm (wsB_is W) hK
theorem mk_defS {par loc:List Str} {x:DefS (D.sc nm) par loc} {t:Tab} (hK:∀ h,X.G h→K.In h) (hnm:X.nm=nm) (hn:x.nest.ok par loc=true) (hp:parOf x.ip=plainPar par) (hl:∃ y∈D.params++D.locals,D.names.lookup y=some .local) (hb:nestB K a t x.t.x=true) (hpos:x.ipos=t.pos)
  (mk:∀ name params body scope,MkFn X (.ref t.c) name params body scope t.pos t.qual) (e:faceIn K a=some (D.face false x.sts)) (c:codeB K a=true) (k:D.ok=true) (w:ownB K a D.own=true):FnOk X (fun _=>defSEv D x 18 zeroF) (.ref a) :=
 let ⟨_,e1,A,DO⟩:=def_at hK e c k w
 let ⟨q1,q2⟩:=nest_at hb e1
 fn_defS (nest_ok hn hp) A DO hnm hl (by rw [q1,q2,hpos]; exact mk _ _ _ _)
theorem mk_defE {par loc:List Str} {x:DefE (D.sc nm) par loc} {t:Tab} (hK:∀ h,X.G h→K.In h) (hnm:X.nm=nm) (hn:x.nest.ok par loc=true) (hp:parOf x.ip=plainPar par) (hb:nestB K a t x.t.x=true) (hpos:x.ipos=t.pos)
  (mk:∀ name params body scope,MkFn X (.ref t.c) name params body scope t.pos t.qual) (e:faceIn K a=some (D.face false x.sts)) (c:codeB K a=true) (k:D.ok=true) (w:ownB K a D.own=true):FnOk X (fun _=>defEEv D x 18 zeroF) (.ref a) :=
 let ⟨_,e1,A,DO⟩:=def_at hK e c k w
 let ⟨q1,q2⟩:=nest_at hb e1
 fn_defE (nest_ok hn hp) A DO hnm (by rw [q1,q2,hpos]; exact mk _ _ _ _)
def AllFn (X:Cx) (val:Nat→Value):Nat→List (Fns→List PV→Option PV)→Prop
 | _,[]=>True
 | n,ev::r=>FnOk X ev (val n)∧AllFn X val (n+1) r
theorem all_fn {val:Nat→Value}:∀ {l:List (Fns→List PV→Option PV)} {n i:Nat} {ev:Fns→List PV→Option PV},AllFn X val n l→l[i]?=some ev→FnOk X ev (val (n+i))
 | [],_,_,_,_,e=>nomatch e
 | x::l,n,0,ev,h,e=>Option.some.inj e▸h.1
 | x::l,n,i+1,ev,h,e=>by
  rw [← Nat.add_assoc,Nat.add_right_comm]
  exact all_fn (l:=l) h.2 e
def Told (faddrs:List Addr) (faces:List (Option Face)) (checks:Frag→Bool) (tabs:List Tab) (h:Heap):Prop :=
 ∃ K:Frag,(∀ a o,K.lookup a=some o→h.get? a=some o∧o≠tabObj #[])∧faddrs.map (faceIn K)=faces∧checks K=true∧∀ t∈tabs,h.get? t.P=some (tabObj #[])
theorem Told.keeps {faddrs:List Addr} {faces:List (Option Face)} {checks:Frag→Bool} {tabs:List Tab} {h h':Heap} (x:Told faddrs faces checks tabs h) (k:∀ b o,h.get? b=some o→h'.get? b=some o):Told faddrs faces checks tabs h' :=
 x.imp fun K q=>⟨fun a o e=>⟨k _ _ (q.1 a o e).1,(q.1 a o e).2⟩,q.2.1,q.2.2.1,fun t m=>k _ _ (q.2.2.2 t m)⟩
end
end Mine
end
section
open PySem PySem.W PyProof.Rows
namespace Mine
open PySem.SeqAt
structure Key (α:Type) where
 A:Sc α
 is:α→Value→Bool
 beq:α→α→Bool
 eq:∀ (Ar:Around) (s:Shared) (a b:α) (t u:Tok),EqAt Ar s (A.ve b u) (A.ve a t) (beq b a)
 at':∀ (a b:α) (u:Tok),is a (A.ve b u)=beq b a
noncomputable def isS (x:Str) (v:Value):Bool:=Value.casesOn (motive:=fun _=>Bool) v false false false (fun _=>false) (fun _ _=>false) (fun _ _=>false) (fun y _=>y==x) (fun _ _=>false) (fun _=>false) (fun _=>false) (fun _=>false)
noncomputable def keyI:Key Int:=⟨scI,isI,fun b a=>b==a,fun _ _ a b t u=>EqAt.int_int b u a t,fun _ _ _=>rfl⟩
noncomputable def keyS:Key Str:=⟨scS,isS,fun b a=>b==a,fun _ _ a b t u=>EqAt.str_str b u a t,fun _ _ _=>rfl⟩
section
variable {Z:Fr} {s:Shared} {p q r:PV} {v w:Value} {xs ps:List PV} {vs:List Value} {α:Type}
theorem key_all (K:Key α) {Ar:Around} {a:α} {t:Tok}:∀ {ns vs},ScAre K.A ns vs→(∀ y,y∈vs→EqAt Ar s y (K.A.ve a t) (K.is a y))∧vs.map (K.is a)=ns.map fun b=>K.beq b a
 | [],_,r=>by obtain rfl:_=[]:=r; exact ⟨fun y h=>(nomatch h),rfl⟩
 | b::ns,_,r=>by
  obtain ⟨u,r,rfl,h⟩:=r
  obtain ⟨i1,i2⟩:=key_all K h
  refine ⟨fun y h=>(List.mem_cons.mp h).elim (fun q=>by rw [q,K.at']; exact K.eq _ _ _ _ _ _) (i1 y),?_⟩
  rw [List.map_cons,List.map_cons,i2,K.at']
noncomputable def inK (K:Key α):C2 .In:=⟨fun p q=>(K.A.d p).bind fun a=>q.lst?.bind fun xs=>(scs K.A xs).map fun ns=>(ns.map fun b=>K.beq b a).any id,fun {Z s p q k v w Q E} V rp rq e h=>onBind e fun a e1 e=>onBind e fun xs e2 e=>onMap e fun ns e3 e4=>by
 obtain ⟨t,rfl⟩:=K.A.rd rp e1
 subst e4
 refine rq.lst e2 (M:=fun w=>wpAny Z.X.M Z.Ar (compareOp .In (K.A.ve a t) w) Q E s) fun l n vs _ ha ra=>?_
 have c:=key_all (s:=s) (Ar:=Z.Ar.in1) (a:=a) (t:=t) K (scs_is K.A ra e3)
 refine in_listAt (K.is a) (lst_is ha) (fun y hy=>c.1 y (Array.mem_toArray.mp hy)) ?_
 rw [List.any_toArray,show vs.any (K.is a)=(vs.map (K.is a)).any id by rw [List.any_map]; rfl,c.2]
 exact h⟩
noncomputable def notInK (K:Key α):C2 .NotIn:=⟨fun p q=>(K.A.d p).bind fun a=>q.lst?.bind fun xs=>(scs K.A xs).map fun ns=>!(ns.map fun b=>K.beq b a).any id,fun {Z s p q k v w Q E} V rp rq e h=>onBind e fun a e1 e=>onBind e fun xs e2 e=>onMap e fun ns e3 e4=>by
 obtain ⟨t,rfl⟩:=K.A.rd rp e1
 subst e4
 refine rq.lst e2 (M:=fun w=>wpAny Z.X.M Z.Ar (compareOp .NotIn (K.A.ve a t) w) Q E s) fun l n vs _ ha ra=>?_
 have c:=key_all (s:=s) (Ar:=Z.Ar.in1) (a:=a) (t:=t) K (scs_is K.A ra e3)
 refine notIn_listAt (K.is a) (lst_is ha) (fun y hy=>c.1 y (Array.mem_toArray.mp hy)) ?_
 rw [List.any_toArray,show vs.any (K.is a)=(vs.map (K.is a)).any id by rw [List.any_map]; rfl,c.2]
 exact h⟩
noncomputable def cntL (l:List Bool):Nat:=List.rec 0 (fun b _ n=>bif b then n+1 else n) l
theorem countP_is {α:Type} (f:α→Bool):∀ l:List α,l.countP f=cntL (l.map f)
 | []=>rfl
 | a::l=>by
  rw [List.countP_cons,countP_is f l,List.map_cons]
  show _=bif f a then cntL (l.map f)+1 else cntL (l.map f)
  cases f a <;> rfl
noncomputable def cntK (K:Key α):MN:=⟨"count","list","list.count",F.plainAttrs_list,F.slot_list_count,F.type_list_count,
 fun p ps=>p.lst?.bind fun xs=>(scs K.A xs).bind fun ns=>arg1 (fun q=>(K.A.d q).map fun a=>.int (cntL (ns.map fun b=>K.beq b a):Nat)) ps,
 fun {Z s p ps v r} V rp e=>onBind e fun xs e1 _=>rp.lst e1 (M:=fun v=>s.TypeIs v "list"∧∀ l,v=.ref l→∃ ob,s.heap.get? l=some ob∧ob.dict=none) fun a n vs _ g _=>⟨⟨_,g,rfl⟩,fun l q=>by cases q; exact ⟨_,g,rfl⟩⟩,
 fun {Z s p ps v vs r} V rp rl e=>onBind e fun xs e1 e=>onBind e fun ns e2 e=>rp.lst e1 (M:=fun v=>Gets Z s r (call (.builtin "list.count") (v::vs))) fun a n us _ g ru=>on1 rl e (M:=fun vs=>Gets Z s r (call (.builtin "list.count") (.ref a::vs))) fun q w e rq=>onMap e fun i e3 e=>by
  obtain ⟨t,rfl⟩:=K.A.rd rq e3
  subst e
  have c:=key_all (s:=s) (Ar:=Z.Ar.in1) (a:=i) (t:=t) K (scs_is K.A ru e2)
  have c2:us.countP (K.is i)=cntL (ns.map fun b=>K.beq b i):=by rw [countP_is,c.2]
  exact fun Q E h=>call_meets F.slot_list_count ⟨_,g,rfl⟩ F.entry_list_count (F.args_list_count_2 _ _) (list_countAt a us.toArray n none #[] _ (K.is i)) ⟨g,fun y hy=>c.1 y (Array.mem_toArray.mp hy),c2▸V.int (c2▸h)⟩,
 fun p ps r e=>onBind e fun xs _ e=>onBind e fun ns _ e=>on1s e fun q e=>onMap e fun a _ e=>e▸rfl⟩
noncomputable def firstAt (l:List Bool):Option Nat:=List.rec none (fun b _ ih=>bif b then some 0 else ih.map Nat.succ) l
theorem firstAt_is:∀ {l:List Bool} {j:Nat},firstAt l=some j→l[j]?=some true∧∀ m,m < j→l[m]?=some false
 | [],_,e=>no e
 | true::l,j,e=>by
  obtain rfl:=Option.some.inj (show some 0=some j from e)
  exact ⟨rfl,fun m h=>absurd h (Nat.not_lt_zero m)⟩
 | false::l,j,e=>onMap (show (firstAt l).map Nat.succ=some j from e) fun i e1 e2=>by
  subst e2
  obtain ⟨h1,h2⟩:=firstAt_is e1
  refine ⟨h1,fun m h=>?_⟩
  cases m with
  | zero=>rfl
  | succ m=>exact h2 m (Nat.lt_of_succ_lt_succ h)
noncomputable def idxK (K:Key α):MN:=⟨"index","list","list.index",F.plainAttrs_list,F.slot_list_index,F.type_list_index,
 fun p ps=>p.lst?.bind fun xs=>(scs K.A xs).bind fun ns=>bif fits ns.length then arg1 (fun q=>(K.A.d q).bind fun a=>(firstAt (ns.map fun b=>K.beq b a)).map fun j=>.int (j:Nat)) ps else none,
 fun {Z s p ps v r} V rp e=>onBind e fun xs e1 _=>rp.lst e1 (M:=fun v=>s.TypeIs v "list"∧∀ l,v=.ref l→∃ ob,s.heap.get? l=some ob∧ob.dict=none) fun a n vs _ g _=>⟨⟨_,g,rfl⟩,fun l q=>by cases q; exact ⟨_,g,rfl⟩⟩,
 fun {Z s p ps v vs r} V rp rl e=>onBind e fun xs e1 e=>onBind e fun ns e2 e=>by
  cases hz:fits ns.length with
  | false=>rw [hz] at e; exact no e
  | true =>
   rw [hz] at e
   exact rp.lst e1 (M:=fun v=>Gets Z s r (call (.builtin "list.index") (v::vs))) fun a n us _ g ru=>on1 rl e (M:=fun vs=>Gets Z s r (call (.builtin "list.index") (.ref a::vs))) fun q w e rq=>onBind e fun i e3 e=>onMap e fun j e4 e=>by
    obtain ⟨t,rfl⟩:=K.A.rd rq e3
    subst e
    have sa:=scs_is K.A ru e2
    have c:=key_all (s:=s) (Ar:=Z.Ar.in1) (a:=i) (t:=t) K sa
    obtain ⟨f1,f2⟩:=firstAt_is e4
    rw [← c.2] at f1 f2
    have get:∀ (m:Nat) (b:Bool) (hm:m < us.toArray.size),(us.map (K.is i))[m]?=some b→K.is i us.toArray[m]=b:=fun m b hm e=>by
     rw [List.getElem?_map,List.getElem?_eq_getElem (show m < us.length from hm)] at e
     exact Option.some.inj e
    have hj:j < us.toArray.size:=by
     have:=(List.getElem?_eq_some_iff.mp f1).1
     rwa [List.length_map] at this
    have hs:(j:Int) < 2 ^ 63 - 1:=by
     have h1:=fits_le hz
     have h2:us.toArray.size=ns.length:=sa.len
     omega
    exact fun Q E h=>call_meets F.slot_list_index ⟨_,g,rfl⟩ F.entry_list_index (F.args_list_index_2 _ _) (list_indexAt a us.toArray n none #[] _ (K.is i) j hj hs (get j true hj f1) fun m hm l=>get m false hm (f2 m l)) ⟨g,fun y hy=>c.1 y (Array.mem_toArray.mp hy),V.int h⟩,
 fun p ps r e=>onBind e fun xs _ e=>onBind e fun ns _ e=>by
  cases hz:fits ns.length with
  | false=>rw [hz] at e; exact no e
  | true=>rw [hz] at e; exact on1s e fun q e=>onBind e fun a _ e=>onMap e fun j _ e=>e▸rfl⟩
noncomputable def subIF:B2 .Sub:=.sc scI scF (fun b _=>inI b) (fun b a=>.flt (Float64.sub (Float64.ofInt b) a)) fun Z s b a t u V c Q E h=>AutoFloatOpsIf.sub_if (if_false (not_eq c) (V.flt h))
end
section
variable {sc:SC}
noncomputable def andB (Φ:Fns) (σ:List Slot):List (SB sc)→Option Bool
 | []=>some true
 | x::r=>(x.ev Φ σ).bind fun a=>bif a then andB Φ σ r else some false
noncomputable def orB (Φ:Fns) (σ:List Slot):List (SB sc)→Option Bool
 | []=>some false
 | x::r=>(x.ev Φ σ).bind fun a=>bif a then some true else orB Φ σ r
theorem andB_ok {Z:Fr} {σ:List Slot} {ws:Nat→Option Value} {p:Pos} {t:Sem Value} {Q:Bool→Shared→Prop} {E:Value→Shared→Prop}:∀ {xs:List (SB sc)} {s:Shared} {b:Bool},Ev Z sc σ ws s→andB Z.Φ σ xs=some b→(∀ s',Stp Z.X Z.X.V s s'→Q b s')→wpAny Z.X.M Z.Ar (isTrue (.BoolOp .And (xs.map SB.e) p) Z.env t) Q E s
 | [],s,b,V,e,q=>isTrue_and_nil (by obtain rfl:=Option.some.inj e; exact q s .refl)
 | x::r,s,b,V,e,q=>onBind e fun a e1 e=>isTrue_and (x.go V e1 fun s₁ x₁ V₁=>by
  cases a with
  | true=>exact andB_ok V₁ e fun s' y=>q s' (x₁.trans y)
  | false=>obtain rfl:=Option.some.inj e; exact q s₁ x₁)
theorem orB_ok {Z:Fr} {σ:List Slot} {ws:Nat→Option Value} {p:Pos} {t:Sem Value} {Q:Bool→Shared→Prop} {E:Value→Shared→Prop}:∀ {xs:List (SB sc)} {s:Shared} {b:Bool},Ev Z sc σ ws s→orB Z.Φ σ xs=some b→(∀ s',Stp Z.X Z.X.V s s'→Q b s')→wpAny Z.X.M Z.Ar (isTrue (.BoolOp .Or (xs.map SB.e) p) Z.env t) Q E s
 | [],s,b,V,e,q=>isTrue_or_nil (by obtain rfl:=Option.some.inj e; exact q s .refl)
 | x::r,s,b,V,e,q=>onBind e fun a e1 e=>isTrue_or (x.go V e1 fun s₁ x₁ V₁=>by
  cases a with
  | true=>obtain rfl:=Option.some.inj e; exact q s₁ x₁
  | false=>exact orB_ok V₁ e fun s' y=>q s' (x₁.trans y))
noncomputable def SB.andL (xs:List (SB sc)) (p:Pos):SB sc:=⟨.BoolOp .And (xs.map SB.e) p,fun Φ σ=>andB Φ σ xs,fun V e Q E q=>andB_ok V e q⟩
noncomputable def SB.orL (xs:List (SB sc)) (p:Pos):SB sc:=⟨.BoolOp .Or (xs.map SB.e) p,fun Φ σ=>orB Φ σ xs,fun V e Q E q=>orB_ok V e q⟩
end
end Mine
end
section
open PySem PySem.W PyProof.Rows
namespace Mine
section
variable {Z:Fr} {s:Shared} {ks:List Int} {fs:List PV} {vs:List Value} {a:Addr} {j:Int} {p:PV} {t:Tok} {h:Heap} {B:Addr→Prop}
theorem look_rep:∀ {ks:List Int} {fs:List PV} {vs:List Value},Mine.RepL h B fs vs→look ks fs j=some p→∃ v,look ks vs j=some v∧Mine.Rep h B p v
 | k::ks,q::fs,_,r,e=>r.onCons (M:=fun vs=>∃ v,look (k::ks) vs j=some v∧Mine.Rep h B p v) fun v vs r1 r2=>by
  unfold look at e ⊢
  by_cases c:j=k
  ·rw [if_pos c] at e ⊢; exact ⟨v,rfl,Option.some.inj e▸r1⟩
  ·rw [if_neg c] at e ⊢; exact look_rep r2 e
 | [],_,_,_,e=>no e
 | _::_,[],_,_,e=>no e
theorem sub_dic (d:DicIn s.heap a ks vs) (r:Z.RepL s.heap fs vs) (e:look ks fs j=some p) {Q:Value→Shared→Prop} {E:Value→Shared→Prop} (h:∀ v tk,Z.Rep s.heap p v→Q v { s with toks:=tk }):SubscriptOn Z.X.M Z.Ar (.ref a) (.int j t) Q E s:=by
 obtain ⟨f,hm,_,hf,_⟩:=d
 obtain ⟨v,h1,h2⟩:=look_rep r e
 exact ⟨"dict",_,slot_dict_getitem.lookup,hm.typeIs,wpAny_getItem_intMap hm ((hf j).trans h1) (h v _ h2)⟩
theorem DicIn.obj (d:DicIn h a ks vs):∃ o,h.get? a=some o∧NotCode o:=by
 obtain ⟨f,⟨o,es,ep,e,c,_⟩,_⟩:=d
 exact ⟨o,e,.inl (by rw [c]; decide)⟩
end
structure SD (sc:SC) where
 e:Expr
 ev:Fns→List Slot→Option (List Int × List PV)
 ok:∀ {Z:Fr} {σ:List Slot} {ws:Nat→Option Value} {s:Shared} {d:List Int × List PV} {Q:Value→Shared→Prop} {E:Value→Shared→Prop},Ev Z sc σ ws s→ev Z.Φ σ=some d→(∀ a vs s',Stp Z.X Z.X.V s s'→Z.X.V a→DicIn s'.heap a d.1 vs→Z.RepL s'.heap d.2 vs→Q (.ref a) s')→wpAny Z.X.M Z.Ar (eval e Z.env) Q E s
section
variable {sc:SC} {Z:Fr} {σ:List Slot} {ws:Nat→Option Value} {s s₁:Shared} {i:Nat} {ks:List Int} {fs:List PV} {a:Addr} {vs:List Value}
noncomputable def SD.of (x:SE sc):SD sc:=⟨x.e,fun Φ σ=>(x.ev Φ σ).bind PV.dic?,fun {Z σ ws s d Q E} V e q=>onBind e fun v e1 e2=>x.go V e1 fun v s₁ x₁ V₁ r=>by
 rw [PV.is_dic e2] at r
 exact Mine.Rep.onDic r (M:=fun v=>Q v s₁) fun a vs b g rl=>q a vs s₁ x₁ (V₁.sub a b) g rl⟩
structure DicOwn (Z:Fr) (ws:Nat→Option Value) (s:Shared) (i:Nat) (ks:List Int) (fs:List PV) (a:Addr) (vs:List Value):Prop where
 hh:ws i=some (.ref a)
 hN:Z.X.N≤a
 far:FarFrom Z a
 hd:DicIn s.heap a ks vs
 hr:Z.RepL s.heap fs vs
theorem Dy.dic (V:Dy Z σ ws s) {d:List Int × List PV} (e:slotD σ i=some d) {P:Prop} (k:∀ a vs,DicOwn Z ws s i d.1 d.2 a vs→P):P:=by
 obtain ⟨a,vs,h1,⟨h2,h3⟩,h4,h5⟩:=V.ok i _ (slotD_is e)
 exact k a vs ⟨h1,h2,h3,h4,h5⟩
theorem DicOwn.step (O:DicOwn Z ws s i ks fs a vs) (V:Bs Z s) (x:Stp Z.X Z.X.V s s₁):DicOwn Z ws s₁ i ks fs a vs:=⟨O.hh,O.hN,O.far,O.hd.keep fun o e=>x.off a o (.inl O.hN) e,O.hr.stp V.sub x⟩
noncomputable def SD.own (i:Nat) (x:Str) (p:Pos) (h:isVar sc i x=true):SD sc:=⟨.Name x p,fun _ σ=>slotD σ i,fun {Z σ ws s d Q E} V e q=>V.toDy.dic e fun a vs O=>ldv V h O.hh (q a vs s .refl (.inl O.hN) O.hd O.hr)⟩
noncomputable def SE.dget (x:SD sc) (ix:SE sc) (p:Pos):SE sc:=⟨.Subscript x.e ix.e p,fun Φ σ=>(x.ev Φ σ).bind fun d=>(ix.ev Φ σ).bind fun j=>j.int?.bind fun j=>look d.1 d.2 j,.sub,
 fun {Z σ ws s r} V e Q E q=>onBind e fun d e1 e=>onBind e fun j e2 e=>onBind e fun j' e3 e=>sub_rule (x.ok V e1 fun a vs s₁ x₁ va g rl=>ix.go (V.step x₁) e2 fun w s₂ x₂ V₂ r₂=>by
  obtain ⟨t,rfl⟩:=scI.rd r₂ e3
  exact sub_dic (g.keep fun o e=>x₂.off a o va e) (rl.stp (V.step x₁).sub x₂) e fun v tk r=>q v _ ((x₁.trans x₂).trans V₂.toBs.toks) r)⟩
noncomputable def SS.setDict (i:Nat) (x:Str) (p p':Pos) (ix v:SE sc) (pos:Pos) (hm:isVar sc i x=true) (hs:∀ env,swapsWith v.e (some (.Subscript (.Name x p) ix.e p')) pos.line env=pure false):SS sc:=⟨.Assign [.Subscript (.Name x p) ix.e p'] v.e pos,
 fun Φ σ=>(slotD σ i).bind fun d=>(v.ev Φ σ).bind fun r=>(ix.ev Φ σ).bind fun j=>j.int?.bind fun j=>bif fits d.1.length then some (.next (σ.set i (.own (.d (j::d.1) (r::d.2))))) else none,
 fun {Z σ ws s o} V e Q E q=>onBind e fun d e0 e=>onBind e fun r e1 e=>onBind e fun j e2 e=>onBind e fun j' e3 e=>by
  cases hz:fits d.1.length with
  | false=>rw [hz] at e; exact no e
  | true =>
   rw [hz] at e
   obtain rfl:=Option.some.inj e
   refine wpAny_Assign_Subscript (v.go V.toEv e1 fun w s₁ x₁ V₁ r₁=>?_) (hs _)
   refine V₁.toDy.dic e0 fun a vs O=>ldv V₁ hm O.hh (ix.go V₁ e2 fun iv s₂ x₂ V₂ r₂=>?_)
   obtain ⟨t,rfl⟩:=scI.rd r₂ e3
   have O₂:=O.step V₁.toBs x₂
   have hu:Z.U a:=V.ownU i (.d d.1 d.2) a (Nat.lt_of_lt_of_le (by rw [V.len]; exact (List.getElem?_eq_some_iff.mp (slotD_is e0)).1) V.al) (slotD_is e0) O.hh
   obtain ⟨f,q1,q2,hf,hl⟩:=id O₂.hd
   refine wpAny_setItem_intMap_le q1 q2 (le_line (fits_le hz)) fun h' m1 m2 hs'=>?_
   have nd:DicIn h' a (j'::d.1) (w::vs):=⟨_,m1,m2,fun k=>by
    show _=if k=j' then some w else look d.1 vs k
    rw [← hf k],congrArg (·+1) hl⟩
   obtain ⟨y1,y2⟩:=own_turnC (c':=.d (j'::d.1) (r::d.2)) (tk:=s₂.toks+1) V₂.toDy O₂.hh O₂.hN hu O₂.far (slotD_is e0) hs' O₂.hd.obj nd.obj fun kB=>⟨a,w::vs,rfl,⟨O.hN,O.far⟩,nd,Mine.RepL.move kB (RepL.cons (r₁.stp V₁.sub x₂) O₂.hr)⟩
   exact goesOn V ((x₁.trans x₂).toK.trans y1) y2 q⟩
noncomputable def SL.freezeD (i:Nat) (r:SL sc):SL sc:=⟨r.sts,fun Φ σ=>(slotD σ i).bind fun d=>r.ex Φ (σ.set i (.val (.dic d.1 d.2))),
 fun {Z σ ws s o} V e Q E h=>onBind e fun d e1 e2=>V.toDy.dic e1 fun a vs O=>by
  have hu:Z.U a:=V.ownU i (.d d.1 d.2) a (Nat.lt_of_lt_of_le (by rw [V.len]; exact (List.getElem?_eq_some_iff.mp (slotD_is e1)).1) V.al) (slotD_is e1) O.hh
  have D:=own_freezeC (p:=.dic d.1 d.2) V.toDy O.hh O.hN O.far (slotD_is e1) fun B b k=>Rep.mkDic b O.hd (Mine.RepL.move (fun b o q e=>⟨k b o q e,e⟩) O.hr)
  exact Does.after V.toDy (B:=fun b=>Z.B b∨b=a) (U:=fun b=>Z.U b∧b≠a) ⟨.refl,fun b u=>.inl u.1,fun b q=>Or.imp id (fun (q:b=a)=>.inl (q▸hu)) q,fun b o q _=>.inl q,V.live⟩ (r.ok (Z:=Z.bu _ _) ⟨⟨⟨D,V.P,V.EO,V.nm⟩,V.al⟩,V.to⟩ e2) h⟩
end
end Mine
end
section
open PySem PySem.W PyProof.Rows
namespace Mine
def MadeAt (h:Heap) (B:Addr→Prop) (a:Addr) (c:Cont):Prop:=Cont.casesOn (motive:=fun _=>Prop) c (fun xs=>∃ vs n,h.get? a=some (lstO vs n)∧Mine.RepL h (fun b=>B b∧b≠a) xs vs) fun ks xs=>∃ vs,DicIn h a ks vs∧Mine.RepL h (fun b=>B b∧b≠a) xs vs
theorem MadeAt.obj {h:Heap} {B:Addr→Prop} {a:Addr} {c:Cont} (m:MadeAt h B a c):∃ o,h.get? a=some o∧NotCode o:=by
 cases c with
 | l xs=>obtain ⟨vs,n,e,_⟩:=m; exact ⟨_,e,lst_code⟩
 | d ks xs=>obtain ⟨vs,d,_⟩:=m; exact d.obj
structure MK (sc:SC) where
 e:Expr
 ev:Fns→List Slot→Option Cont
 st:∀ env es,starEach (e::es) env=(false,eval e env)::starEach es env
 ok:∀ {Z:Fr} {σ:List Slot} {ws:Nat→Option Value} {s:Shared} {c:Cont} {Q:Value→Shared→Prop} {E:Value→Shared→Prop},Ev Z sc σ ws s→ev Z.Φ σ=some c→(∀ a s',Stp Z.X Z.X.V s s'→s.heap.get? a=none→Z.X.N≤a→MadeAt s'.heap Z.B a c→Q (.ref a) s')→wpAny Z.X.M Z.Ar (eval e Z.env) Q E s
section
variable {sc:SC} {Z:Fr} {σ:List Slot} {ws:Nat→Option Value} {s s₁:Shared}
noncomputable def MK.of (x:SO sc) (st:∀ env es,starEach (x.e::es) env=(false,eval x.e env)::starEach es env):MK sc:=⟨x.e,fun Φ σ=>(x.ev Φ σ).map .l,st,fun V e q=>onMap e fun xs e1 e2=>by
 subst e2
 exact x.ok V e1 _ _ fun a vs n s' y h1 h2 h3 h4=>q a s' y h1 h2 ⟨vs,n,h3,h4⟩⟩
noncomputable def MK.dict (p:Pos):MK sc:=⟨.Dict [] [] p,fun _ _=>some (.d [] []),fun _ _=>rfl,fun {Z σ ws s c Q E} V e q=>by
 obtain rfl:=Option.some.inj e
 refine wpAny_Dict_empty ?_
 exact q _ _ (V.toBs.push (tk:=s.toks)) (get_size _) (V.K.size _ V.g) ⟨[],⟨_,Heap.IntMap.new _,Heap.DictLe.new _,fun _=>rfl,rfl⟩,RepL.nil⟩⟩
theorem MadeAt.slot {h h':Heap} {a:Addr} {c:Cont} {Z Z':Fr} (m:MadeAt h Z.B a c) (hN:Z'.X.N≤a) (far:FarFrom Z' a) (hB:∀ b o,(Z.B b∧b≠a)→h.get? b=some o→Z'.B b∧h'.get? b=some o) (ha:∀ o,h.get? a=some o→h'.get? a=some o):SlotV Z' h' (some (.ref a)) (.own c):=by
 cases c with
 | l xs=>obtain ⟨vs,n,e,r⟩:=m; exact ⟨_,vs,rfl,⟨a,n,rfl,hN,ha _ e⟩,Mine.RepL.move hB r⟩
 | d ks xs=>obtain ⟨vs,d,r⟩:=m; exact ⟨a,vs,rfl,⟨hN,far⟩,d.keep ha,Mine.RepL.move hB r⟩
theorem Dy.farNew (V:Dy Z σ ws s) {a:Addr} (ha:s.heap.get? a=none):FarFrom Z a:=⟨fun l m q=>(V.notL ha).1 l m q.symm,fun q=>(V.notL ha).2 q.symm⟩
noncomputable def SS.own2 (t u:Tg) (m n:MK sc) (k k':Nat) (pp p' pos:Pos) (h:(t.ok sc&&u.ok sc)=true) (hs:swappedStores [.Tuple [t.e,u.e] 0 noPos] (.Tuple [m.e,n.e] 0 noPos) (scEnv sc)=pure (some [t.x,u.x])):SS sc :=
 ⟨.Assign [.Tuple [t.e,u.e] k pp] (.Tuple [m.e,n.e] k' p') pos,fun Φ σ=>(m.ev Φ σ).bind fun c=>(n.ev Φ σ).map fun d=>.next ((σ.set u.i (.own d)).set t.i (.own c)),
 fun {Z σ ws s o} V e Q E q=>onBind e fun c e1 e=>onMap e fun d e2 e3=>by
  subst e3
  obtain ⟨ht,hu⟩:=both h
  have hs':swappedStores [.Tuple [t.e,u.e] k pp] (.Tuple [m.e,n.e] k' p') Z.env=pure (some [t.x,u.x]):=(swaps_same V.EO.kind V.EO.names).trans hs
  rw [exec_Assign_arm]
  refine wpAny_bind (wpAny_standAt ?_)
  rw [show swapsWithSole [.Tuple [t.e,u.e] k pp] (.Tuple [m.e,n.e] k' p') pos.line Z.env=pure false from rfl]
  refine wpAny_bind (wpAny_pure ?_)
  rw [if_neg (by decide)]
  refine wpAny_bind (wpAny_Tuple (wpAny_items_cons (m.ok V.toEv e1 fun a s₁ x₁ ha na ma=>?_) (m.st _ _)))
  have la:∃ o,s₁.heap.get? a=some o∧NotCode o:=ma.obj
  have E₁:Ev (Z.bu (fun z=>Z.B z∧¬ z=a) (fun z=>Z.U z∨z=a)) sc σ ws s₁:=⟨V.toDy.claim x₁ (fun z q=>q▸⟨ha,la.imp fun _ q=>q.1⟩) fun z q=>⟨q,q▸⟨na,la⟩⟩,V.P,V.EO,V.nm⟩
  refine wpAny_items_cons (n.ok (Z:=Z.bu (fun z=>Z.B z∧¬ z=a) (fun z=>Z.U z∨z=a)) E₁ e2 fun b s₂ x₂ hb nb mb=>wpAny_pure ⟨by show 2≤sizeLine; decide,?_⟩) (n.st _ _)
  rw [hs']
  refine wpAny_bind (wpAny_pure ?_)
  have V₂:=(V.toEv.step x₁).step (show Stp Z.X Z.X.V s₁ s₂ from x₂)
  have x₂:Stp Z.X Z.X.V s₁ s₂:=x₂
  have nb:Z.X.N≤b:=nb
  have x₃:Stp Z.X Z.X.V s₂ { s₂ with heap:=s₂.heap.push (tupO [.ref a,.ref b] 0) }:=V₂.toBs.push (tk:=s₂.toks)
  have gT:(s₂.heap.push (tupO [.ref a,.ref b] 0)).get? s₂.heap.objs.size=some (tupO [.ref a,.ref b] 0):=Heap.get?_push_size _ rfl
  have hT:s₂.heap.get? s₂.heap.objs.size=none:=get_size _
  have nT:Z.X.N≤s₂.heap.objs.size:=V₂.K.size _ V₂.g
  show wpAny Z.X.M Z.Ar (do
   rule "assign.swapped-stores"
   let items ← unpackItems (.ref s₂.heap.objs.size) [Value.ref a,.ref b].length none
   assignInOrder ([t.x,u.x].reverse.map fun n=>bindName Z.env n) items.reverse
   pure .next) Q E { s₂ with heap:=s₂.heap.push (tupO [.ref a,.ref b] 0) }
  refine wpAny_bind (wpAny_rule (wpAny_bind (unpack_rule V.R.hh ⟨_,rfl,.inl (tup_is gT)⟩ fun h' tk hk=>?_)))
  have x₄:Stp Z.X Z.X.V { s₂ with heap:=s₂.heap.push (tupO [.ref a,.ref b] 0) } { s₂ with heap:=h',toks:=tk }:=(V₂.toBs.step x₃).ext hk
  have lb:∃ o,s₂.heap.get? b=some o∧NotCode o:=mb.obj
  have sb:s.heap.get? b=none:=x₁.live (.inl nb) hb
  have sT:s.heap.get? s₂.heap.objs.size=none:=x₁.live (.inl nT) (x₂.live (.inl nT) hT)
  have ab:a≠b:=fun z=>none_at (z▸hb) (la.imp fun _ q=>q.1)
  have y:Stp Z.X Z.X.V s { s₂ with heap:=h',toks:=tk }:=(x₁.trans x₂).trans (x₃.trans x₄)
  have fa:∀ o,s₁.heap.get? a=some o→h'.get? a=some o:=fun o e=>x₄.off a o (.inl na) (x₃.off a o (.inl na) (x₂.off a o (.inl na) e))
  have fb:∀ o,s₂.heap.get? b=some o→h'.get? b=some o:=fun o e=>x₄.off b o (.inl nb) (x₃.off b o (.inl nb) e)
  have D:=V.toDy.claim y (Y:=fun z=>z=a∨z=b∨z=s₂.heap.objs.size) (W:=fun z=>z=b)
   (fun z q=>by
    rcases q with rfl | rfl | rfl
    ·exact ⟨ha,la.imp fun o q=>fa o q.1⟩
    ·exact ⟨sb,lb.imp fun o q=>fb o q.1⟩
    ·exact ⟨sT,_,x₄.off _ _ (.inl nT) gT⟩)
   fun z q=>(by rw [q]; exact ⟨.inr (.inl rfl),nb,lb.imp fun o q=>⟨fb o q.1,q.2⟩⟩)
  have k₂:∀ z o,Z.B z→s₂.heap.get? z=some o→h'.get? z=some o:=fun z o k e=>x₄.off z o (V.sub z k) (x₃.off z o (V.sub z k) e)
  have sltB:SlotV (Z.bu (fun z=>Z.B z∧¬ (z=a∨z=b∨z=s₂.heap.objs.size)) fun z=>Z.U z∨z=b) h' (some (.ref b)) (.own d):=mb.slot (Z':=Z.bu _ _) nb (V.toDy.farNew sb) (fun z o k e=>⟨⟨k.1.1,fun q=>q.elim k.1.2 fun q=>q.elim k.2 fun q=>none_at hT ⟨o,q▸e⟩⟩,k₂ z o k.1.1 e⟩) fb
  show wpAny Z.X.M Z.Ar (do (do holding [Value.ref a] (bindName Z.env u.x (.ref b)); assignInOrder [bindName Z.env t.x] [Value.ref a]); pure .next) Q E _
  refine wpAny_bind (wpAny_bind (wpAny_holding (wpAny_bindName (store (Z:=Z.bu _ _) D V.EO hu (V.to _ _ hu) sltB (fun zs _=>⟨fun j ys _ e=>V.toDy.notOwn sb e,fun z z'=>.inr (by injection z' with z'; exact z'.symm)⟩) fun s₅ x₅ D₅=>?_))))
  have nUa:¬ (Z.U a∨a=b):=fun q=>q.elim (V.toDy.notU ha) ab
  have fa5:∀ o,s₁.heap.get? a=some o→s₅.heap.get? a=some o:=fun o e=>x₅.off a o ⟨.inl na,nUa⟩ (fa o e)
  have D₆:Dy (Z.bu (fun z=>Z.B z∧¬ (z=a∨z=b∨z=s₂.heap.objs.size)) fun z=>(Z.U z∨z=b)∨z=a) (σ.set u.i (.own d)) (setW ws u.i (.ref b)) s₅:=D₅.to (s':=s₅) .none D₅.g D₅.fresh D₅.sub (fun z q k=>q.elim (fun q=>D₅.dis z q k) fun q=>k.2 (.inl q)) (fun z q=>q.elim (D₅.turn z) fun q=>(by rw [q]; exact ⟨na,la.imp fun o q=>⟨fa5 o q.1,q.2⟩⟩)) (fun z o k e=>⟨k,e⟩) (fun z o _ _ e=>e) fun z q=>.inl q
  have nb':∀ z o,s₁.heap.get? z=some o→z≠b∧z≠s₂.heap.objs.size:=fun z o e=>⟨fun q=>none_at hb ⟨o,q▸e⟩,fun q=>none_at (x₂.live (.inl nT) hT) ⟨o,q▸e⟩⟩
  have sltA:SlotV (Z.bu (fun z=>Z.B z∧¬ (z=a∨z=b∨z=s₂.heap.objs.size)) fun z=>(Z.U z∨z=b)∨z=a) s₅.heap (some (.ref a)) (.own c):=ma.slot (Z':=Z.bu _ _) na (V.toDy.farNew ha) (fun z o k e=>⟨⟨k.1,fun q=>q.elim k.2 fun q=>q.elim (nb' z o e).1 (nb' z o e).2⟩,x₅.off z o ⟨V.sub z k.1,fun q=>q.elim (fun q=>V.dis z q k.1) (nb' z o e).1⟩ (k₂ z o k.1 (x₂.off z o (V.sub z k.1) e))⟩) fa5
  show wpAny Z.X.M Z.Ar (do holding [] (bindName Z.env t.x (.ref a)); assignInOrder [] []) _ E s₅
  refine wpAny_bind (wpAny_holding (wpAny_bindName (store (Z:=Z.bu _ _) D₆ V.EO ht (V.to _ _ ht) sltA (fun zs _=>⟨fun j ys jn e=>?_,fun z z'=>.inr (by injection z' with z'; exact z'.symm)⟩) fun s₆ x₆ D₇=>?_)))
  ·by_cases w:j=u.i
   ·rw [w,setW_i]
    intro z
    injection z with z
    injection z with z
    exact ab z.symm
   ·rw [setW_j w]
    rw [List.getElem?_set_ne (Ne.symm w)] at e
    exact V.toDy.notOwn ha e
  ·refine wpAny_pure (wpAny_pure (q .next s₆ _ _ ⟨(y.toK.on x₅ (fun z o k e=>⟨k.1,fun w=>w.elim k.2 fun w=>none_at (w▸sb) ⟨o,e⟩⟩) y.size).on x₆ (fun z o k e=>⟨k.1,fun w=>w.elim (fun w=>w.elim k.2 fun w=>none_at (w▸sb) ⟨o,e⟩) fun w=>none_at (w▸ha) ⟨o,e⟩⟩) (Nat.le_trans y.size x₅.size),fun z w=>w.elim (fun w=>w.elim .inl fun w=>.inr (w▸⟨nb,sb⟩)) fun w=>.inr (w▸⟨na,ha⟩),fun z k=>.inl k.1,fun z o k e=>⟨k,fun w=>w.elim (fun w=>none_at (w▸ha) ⟨o,e⟩) fun w=>w.elim (fun w=>none_at (w▸sb) ⟨o,e⟩) fun w=>none_at (w▸sT) ⟨o,e⟩⟩,fun z w=>D₇.live z (.inl (.inl w))⟩ ⟨rfl,_,⟨⟨⟨D₇,V.P,V.EO,V.nm⟩,V.al⟩,V.to⟩⟩))⟩
end
end Mine
end
section
open PySem PySem.W PyProof.Rows
namespace Mine
section
variable {sc:SC}
noncomputable def SE.callF (i:Nat) (x:Str) (as:List (SE sc)) (p1 p:Pos) (hm:isVar sc i x=true):SE sc:=⟨.Call (.Name x p1) (exprs as) [] p,fun Φ σ=>(slotF σ i).bind fun k=>(evL Φ σ as).bind (Φ.x k),⟨fun _ _=>rfl,fun op=>by cases op <;> rfl,fun _ _=>rfl⟩,
 fun {Z σ ws s r} V e Q E q=>onBind e fun k e0 e=>onBind e fun ps e1 e=>(V.ok i _ (slotF_is e0)).elim fun v w=>wpAny_Call_NameR (ldv V hm w.1 (V.K.callx k v w.2 _ p _ _ E _ (no_stars as) (evL_ok V e1 fun vs s₁ x₁ V₁ rl=>⟨V₁.g,V₁.P.x k v vs ps _ s₁ _ w.2 e V₁.toBs.of rl Q E fun v s₂ x₂ r=>q v s₂ (x₁.trans x₂) r⟩) V.g))⟩
end
section
variable {Ar:Around} {E:Value→Shared→Prop} {s s':Shared} {sc:SC} {Z:Fr} {nm:Nms} {ps:List PV} {vs:List Value} {r:PV} {a:Addr} {fd:FuncData} {D:Sig} {d:Nat} {F₀ F₁:Value}
theorem bind_more (EO:EnvOk Z.env sc Z.ls) {ys:List Str} {us:List Value} {Q:PUnit→Shared→Prop}:∀ (xs:List Str) (vs:List Value) (ps:List PV) (k:Nat) (σ:List Slot) (ws:Nat→Option Value) (s:Shared),Dy Z σ ws s→xs.length=ps.length→Z.RepL s.heap ps vs →
  (∀ (j:Nat) (x:Str),xs[j]?=some x→isTo sc (k+j) x=true∧k+j < Z.wr) →
  (∀ ws' s',Stp Z.X Z.K s s'→Dy Z (setFrom k ps σ) ws' s'→wpAny Z.X.M Z.Ar (forIn (ys.zip us) (⟨⟩:PUnit) fun (x:Str × Value) (_:PUnit)=>(match x with | (name,v)=>do storeName Z.env name v; pure (ForInStep.yield ⟨⟩):Sem (ForInStep PUnit))) Q E s') →
  wpAny Z.X.M Z.Ar (forIn ((xs++ys).zip (vs++us)) (⟨⟩:PUnit) fun (x:Str × Value) (_:PUnit)=>(match x with | (name,v)=>do storeName Z.env name v; pure (ForInStep.yield ⟨⟩):Sem (ForInStep PUnit))) Q E s
 | [],vs,[],k,σ,ws,s,D,_,r,_,h=>by
  obtain rfl:vs=[]:=r
  exact h ws s .refl D
 | x::xs,vs,p::ps,k,σ,ws,s,D,hl,r,hm,h=>by
  obtain ⟨v,vs,rfl,r1,r2⟩:=r
  rw [List.cons_append,List.cons_append,List.zip_cons_cons,List.forIn_cons]
  exact wpAny_bind (wpAny_bind (storeV D EO (hm 0 x rfl).1 (hm 0 x rfl).2 r1 fun ws₁ s₁ x₁ D₁=>wpAny_pure (bind_more EO xs vs ps (k+1) _ ws₁ s₁ D₁ (Nat.succ.inj hl) (Fr.RepL.stpK r2 D x₁) (fun j x' e=>(Nat.add_right_comm k j 1)▸hm (j+1) x' e) fun ws₂ s₂ x₂ D₂=>h ws₂ s₂ (x₁.trans x₂) D₂)))
 | [],_,_::_,_,_,_,_,_,hl,_,_,_=>nomatch hl
 | _::_,_,[],_,_,_,_,_,hl,_,_,_=>nomatch hl
noncomputable def Sig.slots2 (D:Sig) (ps:List PV):List Slot:=(setFrom 0 ps (List.replicate (D.params++D.locals).length .unset)).set ps.length (.fn 0) |>.set (ps.length+1) (.fn 1)
noncomputable def hiEv (D:Sig) (body:SL (D.sc nm)) (Φ:Fns) (ps:List PV):Option PV:=bif Nat.beq (ps.length+2) D.params.length then (body.ex Φ (D.slots2 ps)).bind fun o=>Out.casesOn (motive:=fun _=>Option PV) o (fun _=>some .none) (fun _=>none) some else none
theorem hi_ok {body:SL (D.sc nm)} (V:Bs Z s) (A:FnAt Z.X a fd) (DO:DefOk fd D body.sts) (hd:Z.d=d+1) (hnm:Z.X.nm=nm) (P:∀ Ar,Room Ar d→Pf Z.X Z.Φ Ar d) (rl:Z.RepL s.heap ps vs) (h0:Z.X.xv 0=some F₀) (h1:Z.X.xv 1=some F₁) (e:hiEv D body Z.Φ ps=some r):Gets Z s r (call (.ref a) (vs++[F₀,F₁])):=by
 unfold hiEv at e
 cases hl:Nat.beq (ps.length+2) D.params.length with
 | false=>rw [hl] at e; exact no e
 | true =>
  rw [hl] at e
  have hl:=Nat.eq_of_beq_eq_true hl
  refine onBind e fun o e1 e2 Q E h=>?_
  obtain ⟨xs,y,z,hxs,hn⟩:∃ xs y z,D.params=xs++[y,z]∧xs.length=ps.length:=by
   refine ⟨D.params.take ps.length,D.params[ps.length]'(by omega),D.params[ps.length+1]'(by omega),?_,?_⟩
   ·have q1:D.params.drop ps.length=[D.params[ps.length]'(by omega),D.params[ps.length+1]'(by omega)]:=by
     rw [List.drop_eq_getElem_cons (by omega),List.drop_eq_getElem_cons (by omega),List.drop_eq_nil_of_le (by omega)]
    rw [← q1,List.take_append_drop]
   ·rw [List.length_take]; omega
  have gy:D.params[ps.length]?=some y:=by rw [hxs,List.getElem?_append_right (by omega),hn,Nat.sub_self]; rfl
  have gz:D.params[ps.length+1]?=some z:=by rw [hxs,List.getElem?_append_right (by omega),hn,Nat.add_sub_cancel_left]; rfl
  refine wpAny_call (def_frame (nm:=nm) V A DO hd (by rw [List.length_append,rl.len]; exact hl) (σ₂:=D.slots2 ps) (fun env cs C ws H EO hi K D₁ Q E k=>?_) fun env cs C ws s₂ he hc N hi EO y₂ D₂ E'=>body.ok (first_ex EO hnm D₂ (P _ D₂.R)) e1 _ E' fun f s₃ B U g en=>?_)
  ·have rl₁:(Z.first Z.Ar.in1 d env D.names cs C (D.params++D.locals)).RepL H ps vs:=Mine.RepL.move (fun b o q e=>⟨⟨q,fun u=>none_at (hi b u).1 ⟨o,e⟩⟩,K b o e⟩) rl
   rw [show D.params.zip (vs++[F₀,F₁])=(xs++[y,z]).zip (vs++[F₀,F₁]) by rw [← hxs]]
   refine bind_more (Z:=Z.first Z.Ar.in1 d env D.names cs C (D.params++D.locals)) EO xs vs ps 0 _ ws _ D₁ hn rl₁ (fun j x e=>?_) fun ws₂ s₂ x₂ D₂=>?_
   ·have e:D.params[j]?=some x:=by rw [hxs,List.getElem?_append_left (List.getElem?_eq_some_iff.mp e).1,e]
    rw [Nat.zero_add]
    exact ⟨par_to DO e,par_lt e⟩
   ·rw [List.zip_cons_cons,List.zip_cons_cons,List.zip_nil_left,List.forIn_cons]
    refine wpAny_bind (wpAny_bind (store (Z:=Z.first Z.Ar.in1 d env D.names cs C (D.params++D.locals)) (t:=.fn 0) D₂ EO (par_to DO gy) (par_lt gy) ⟨F₀,rfl,h0⟩ (fun _ q=>nomatch q) fun s₃ x₃ D₃=>wpAny_pure ?_))
    dsimp only
    rw [List.forIn_cons]
    refine wpAny_bind (wpAny_bind (store (Z:=Z.first Z.Ar.in1 d env D.names cs C (D.params++D.locals)) (t:=.fn 1) D₃ EO (par_to DO gz) (par_lt gz) ⟨F₁,rfl,h1⟩ (fun _ q=>nomatch q) fun s₄ x₄ D₄=>wpAny_pure ?_))
    dsimp only
    rw [List.forIn_nil]
    exact wpAny_pure (k _ s₄ (x₂.trans (x₃.trans x₄)) D₄)
  ·obtain ⟨y₃,fr⟩:=first_back V hi y₂ g
   cases o with
   | next σ =>
    obtain rfl:=Option.some.inj e2
    obtain ⟨rfl,_⟩:=en
    exact h _ _ y₃ (rfl:Value.none=_)
   | brk σ=>exact no e2
   | ret p =>
    obtain rfl:=Option.some.inj e2
    obtain ⟨v,rfl,rv⟩:=en
    exact h _ _ y₃ (Mine.Rep.move rv fun b o q e=>⟨fr b q,e⟩)
end
section
variable {X:Cx} {nm:Nms} {D:Sig} {a:Addr} {fd:FuncData} {K:Frag}
theorem fn_hi {body:SL (D.sc nm)} (A:FnAt X a fd) (DO:DefOk fd D body.sts) (hnm:X.nm=nm):HiOk X (hiEv D body) (.ref a):=fun Φ Ar d B s vs ps r F₀ F₁ P V rl h0 h1 e =>
 hi_ok (Z:=Fr.of X Φ Ar (d+20) B) (d:=d+19) V A DO rfl hnm P rl h0 h1 e
theorem mk_hi {body:SL (D.sc nm)} (hK:∀ h,X.G h→K.In h) (hnm:X.nm=nm) (e:faceIn K a=some (D.face false body.sts)) (c:codeB K a=true) (k:D.ok=true) (w:ownB K a D.own=true):HiOk X (hiEv D body) (.ref a) :=
 let ⟨_,_,A,DO⟩:=def_at hK e c k w; fn_hi A DO hnm
end
end Mine
end
section
open PySem PySem.W PyProof.Rows
namespace Mine
noncomputable def vals (σ:List Slot):List Slot:=σ.map fun t=>Slot.casesOn (motive:=fun _=>Slot) t .unset .val (fun _=>.unset) (fun _=>.unset) fun _=>.unset
noncomputable def onlyF (W:Nat→List PV→Option PV):Fns:=⟨W,fun _ _=>none,fun _ _=>none,fun _ _=>none,fun _ _ _=>none⟩
structure FA (sc:SC) where
 e:Expr
 T:List Slot→(Nat→List PV→Option PV)→List PV→Option PV
 st:∀ env es,starEach (e::es) env=(false,eval e env)::starEach es env
 ok:∀ {Z:Fr} {σ:List Slot} {ws:Nat→Option Value} {s:Shared} {Q:Value→Shared→Prop} {E:Value→Shared→Prop},Ev Z sc σ ws s→(∀ F s',Stp Z.X Z.X.V s s'→HandOk Z.X s'.heap (T σ) F→Q F s')→wpAny Z.X.M Z.Ar (eval e Z.env) Q E s
section
variable {sc:SC} {Z:Fr} {σ:List Slot} {ws:Nat→Option Value} {s s':Shared} {X:Cx} {W:Nat→List PV→Option PV} {Ar:Around} {d:Nat}
theorem pf_only (P:PfFn X W Ar d):Pf X (onlyF W) Ar d:=⟨fun f vs ps r s B e V rl=>P _ f vs ps r s B e V rl,fun _ _ _ _ _ _ e=>no e,fun _ _ _ _ _ _ e=>no e,fun _ _ _ _ _ _ _ _ e=>no e,fun _ _ _ _ _ _ _ _ _ e=>no e⟩
theorem PfFn.more {e:Nat} (P:PfFn X W Ar d) (h:d≤e):PfFn X W Ar e:=fun Φ f vs ps r s B q V rl=>P Φ f vs ps r s B q (V.less h) rl
theorem HandOk.later {h h':Heap} {T:(Nat→List PV→Option PV)→List PV→Option PV} {F:Value} (H:HandOk X h T F) (x:ExtOn X.V h h'):HandOk X h' T F :=
 ⟨fun W d P Φ Ar B s vs ps r e V k rl=>H.go W d P Φ Ar B s vs ps r e V (fun a o v q=>k a o v (x a o v q)) rl,fun Ar pos trees Q E s hn hh g=>H.cw Ar pos trees Q E s hn (wpAny_mono hh (fun vs s₁ q=>⟨⟨q.1.1,fun a o v e=>q.1.2 a o v (x a o v e)⟩,q.2⟩) fun _ _ e=>e) g⟩
noncomputable def FA.glob (f:Nat) (x:Str) (p:Pos) (hx:sc.nm.fns[f]?=some x) (hg:isGlob sc x=true):FA sc:=⟨.Name x p,fun _ W ps=>W f ps,fun _ _=>rfl,
 fun {Z σ ws s Q E} V q=>global V hg (V.K.fns f x (V.nm▸hx)) (q _ s .refl ⟨fun W d P Φ Ar B s vs ps r e V' _ rl=>(P Ar (V'.R.less (Nat.le_add_right d 19))).more (Nat.le_add_right d 19) Φ f vs ps r s B e V' rl,
  fun Ar pos trees Q E s hn hh g=>V.K.callw f x (V.nm▸hx) Ar pos [] trees Q E s hn (wpAny_mono hh (fun vs s₁ q=>⟨q.1.1,q.2⟩) fun _ _ e=>e) g⟩)⟩
noncomputable def lamB (sc:SC) (isc:Scope) (y:Str) (c:Addr) (pos:Pos) (q:Str):Bool :=
 (scopeOk sc isc&&(!isc.isCoroutine&&!isc.isGenerator))&&((isc.names.lookup y==some .local&&(isc.names.all fun x=>!(x.2==.cell)))&&(isc.names.lookup ("":Str)==none&&(sc.own==some (c,q)&&sc.nm.lams.contains (c,pos,q++"<lambda>"))))
theorem vals_at {i:Nat} {t:Slot} (e:(vals σ)[i]?=some t):t=.unset∨∃ p,t=.val p∧σ[i]?=some (.val p):=by
 unfold vals at e
 rw [List.getElem?_map] at e
 refine onMap e fun u e1 e2=>?_
 cases u with
 | val p=>exact .inr ⟨p,e2.symm,e1⟩
 | _=>exact .inl e2.symm
noncomputable abbrev Fr.rest (Z:Fr) (W:Nat→List PV→Option PV) (Ar:Around) (d:Nat):Fr:={ Z with Φ:=onlyF W,Ar:=Ar,d:=d,B:=Z.X.V,U:=fun _=>False,wr:=0,ow:=Z.ls.length }
theorem rest_ey (V:Ev Z sc σ ws s) (P:PfFn Z.X W Ar d) (K:CxOk Z.X) (R:Room Ar d) (g:Z.X.G s'.heap) (k:ExtOn Z.X.V s.heap s'.heap):Ey (Z.rest W Ar d) sc (vals σ) ws s' :=
 ⟨⟨{
   K:=K,R:=R,g:=g,fresh:=fun a n _=>.inl n,sub:=fun a q=>q,dis:=fun a u=>u.elim,turn:=fun a u=>u.elim,len:=by unfold vals; rw [List.length_map]; exact V.len,pl:=fun i l e=>(V.pl i l e).keep fun o q=>k _ o (.inl (V.hi l (List.mem_of_getElem? e))) q,hi:=V.hi,mine:=fun i l h=>absurd h (Nat.not_lt_zero i),apart:=V.apart,nsl:=⟨V.nsl.1,V.nsl.2.imp fun m q=>q.at' fun o e=>k _ o (.inl V.nsl.1) e⟩
   ok:=fun i t e=>by
    rcases vals_at e with rfl | ⟨p,rfl,e'⟩
    ·trivial
    ·exact (V.ok i _ e').imp fun v q=>⟨q.1,Mine.Rep.move q.2 fun a o b e=>⟨V.sub a b,k a o (V.sub a b) e⟩⟩
   ownU:=fun i c a _ e=>by
    rcases vals_at e with z | ⟨p,z,_⟩ <;> exact nomatch z
   once:=fun i j c c' e=>by
    rcases vals_at e with z | ⟨p,z,_⟩ <;> exact nomatch z },pf_only P,V.EO,V.nm⟩,Nat.le_refl _⟩
noncomputable def FA.lam (isc:Scope) (y:Str) (ip:Arguments) (pos:Pos) (c:Addr) (q:Str) (body:SE (closSC sc isc ([y]++[]))) (hb:lamB sc isc y c pos q=true) (hp:parOf ip=plainPar [y]) (hdef:∀ env,defaultsOf ip env=([],[])):FA sc :=
 ⟨.Lambda ip body.e isc pos,fun σ W ps=>bif Nat.beq ps.length 1 then (body.ev (onlyF W) (ps.map Slot.val++vals σ)).bind fun r=>bif scal r then some r else none else none,fun _ _=>rfl,
 fun {Z σ ws s Q E} V k=>by
  obtain ⟨h1,h2⟩:=both hb
  obtain ⟨hs,h1⟩:=both h1
  obtain ⟨c1,c2⟩:=both h1
  obtain ⟨h3,h4⟩:=both h2
  obtain ⟨d1,d2⟩:=both h3
  obtain ⟨e1,h4⟩:=both h4
  obtain ⟨e2,e3⟩:=both h4
  have S:=scopeOk_is hs
  obtain ⟨m1,m2⟩:=V.EO.made c q (eq_of_beq e2)
  refine kla_eval (hdef _) ?_
  rw [m2]
  refine V.K.lam c pos _ (V.nm▸List.contains_iff_mem.mp e3) ip body.e isc Z.Ar Z.env _ s Q E V.g V.EO.glob m1 (closure_ok V.EO S) fun F fd s₁ x₁ hF st hfd=>?_
  obtain ⟨pm,cd,ctv,rfl⟩:=hfd
  have K:ClosOk (kla_fn "<lambda>" (q++"<lambda>") ip body.e isc (handed isc.names Z.env) pm cd ctv) [y] [] (.expr body.e) isc Z.env :=
   ⟨rfl,S.kind,not_eq c1,not_eq c2,rfl,rfl,rfl,fun x m=>handed_lookup V.EO S m,by simp,(fun x m=>by
    obtain rfl:x=y:=by simpa using m
    exact eq_of_beq d1),(fun x k m z=>by
    have:=List.all_eq_true.mp d2 _ m
    rw [z] at this
    exact nomatch (show (!(NameKind.cell==NameKind.cell))=true from this)),eq_of_beq e1,fun vs hv=>bind_plain (fd:=kla_fn "<lambda>" (q++"<lambda>") ip body.e isc (handed isc.names Z.env) pm cd ctv) (congrArg (·.1) hp) (congrArg (·.2.1) hp) (congrArg (·.2.2.1) hp) (congrArg (·.2.2.2.1) hp) (congrArg (·.2.2.2.2) hp) rfl (by simp) vs hv⟩
  have V₁:=V.step x₁
  have KX:=V.K
  refine k _ s₁ x₁ ⟨fun W d P Φ Ar B s₂ vs ps r e V₂ x₂ rl Q E kq=>?_,fun Ar pos trees Q E s₂ hn hh g=>?_⟩
  ·cases hl:Nat.beq ps.length 1 with
   | false=>rw [hl] at e; exact no e
   | true =>
    rw [hl] at e
    refine onBind e fun r' e1 e=>?_
    cases hr:scal r' with
    | false=>rw [hr] at e; exact no e
    | true =>
     rw [hr] at e
     obtain rfl:=Option.some.inj e
     have P':PfFn Z.X W Ar (d+18+1):=(P Ar (V₂.R.less (Nat.le_add_right d 19))).more (Nat.le_add_right d 19)
     have Y:Ey (Z.rest W Ar (d+18+1)) sc (vals σ) ws s₂:=rest_ey V₁ P' KX V₂.R V₂.g x₂
     obtain ⟨o,ho,hod⟩:=st.obj
     have hc:s₂.heap.CodeRec (kla_fn "<lambda>" (q++"<lambda>") ip body.e isc (handed isc.names Z.env) pm cd ctv).code (q++"<lambda>"):=by
      obtain ⟨c,oc,vs,t,k1,k2,k3,k4,k5,k6⟩:=st.code
      exact ⟨c,oc,vs,t,k1,x₂ c oc k6 k2,k4,k5⟩
     refine clos_callE (Z:=Z.rest W Ar (d+18+1)) Y rfl (x₂ F o (.inl st.hi) ho) hod hc K (fun x m=>(S.free x m).2) (Mine.RepL.move (fun a o b e=>⟨V₂.sub a b,e⟩) rl) (Nat.eq_of_beq_eq_true hl) fun env C ws₂ s₃ hL EO y₃ hC D₃ E'=>?_
     have Pd:Pf Z.X (onlyF W) (Ar.deeper env) (d+18):=pf_only ((P _ (D₃.R.less (Nat.le_add_right d 18))).more (Nat.le_add_right d 18))
     exact body.go (Z:=(Z.rest W Ar (d+18+1)).clos (Ar.deeper env) (d+18) env C ([y]++[])) ⟨D₃,Pd,EO,V.nm⟩ e1 fun v s₄ x₄ _ rv=>kq v s₄ ((y₃.weak fun a k=>⟨k,fun u=>u⟩).trans x₄) (scal_rep hr rv)
  ·obtain ⟨o,ho,hod⟩:=st.obj
   exact Calls.callWith_function (o:=o) (evalArgs_any hn (wpAny_mono hh (fun vs s₁ q=>⟨⟨q.1.2 F o (.inl st.hi) ho,hod⟩,q.2⟩) fun _ _ e=>e))⟩
end
end Mine
end
section
open PySem PySem.W PyProof.Rows
namespace Mine
section
variable {sc:SC} {Z:Fr} {σ:List Slot} {ws:Nat→Option Value}
theorem evL_more {pos:Pos} {E:Value→Shared→Prop} {tail:List Expr}:∀ {as:List (SE sc)} {s:Shared} {ps:List PV} {Q:List Value→Shared→Prop},Ev Z sc σ ws s→evL Z.Φ σ as=some ps→(∀ vs s',Stp Z.X Z.X.V s s'→Ev Z sc σ ws s'→Z.RepL s'.heap ps vs→wpAny Z.X.M Z.Ar (spliced (backTo pos (starEach tail Z.env))) (fun us=>Q (vs++us)) E s')→wpAny Z.X.M Z.Ar (spliced (backTo pos (starEach (exprs as++tail) Z.env))) Q E s
 | [],s,_,_,V,e,q=>q [] s .refl V (Option.some.inj e▸RepL.nil)
 | a::as,_,_,_,V,e,q=>onBind e fun p e1 e=>onMap e fun ps e2 e=>wpAny_items_cons (a.go V e1 fun v s₁ x₁ V₁ r₁=>evL_more V₁ e2 fun vs s₂ x₂ V₂ rl=>q (v::vs) s₂ (x₁.trans x₂) V₂ (e▸RepL.cons (r₁.stp V₁.sub x₂) rl)) (a.pl.st _ _)
theorem no_stars2 {env:Env} {pos:Pos} {f g:FA sc}:∀ as:List (SE sc),(backTo pos (starEach (exprs as++[f.e,g.e]) env)).any (·.1)=false
 | []=>by
  show (backTo pos (starEach [f.e,g.e] env)).any (·.1)=false
  rw [f.st,g.st]; rfl
 | a::as=>by
  show (backTo pos (starEach (a.e::(exprs as++[f.e,g.e])) env)).any (·.1)=false
  rw [a.pl.st]
  exact no_stars2 as
theorem Dy.here {s:Shared} (V:Dy Z σ ws s):∃ a o,Z.X.N≤a∧s.heap.get? a=some o:=V.nsl.2.elim fun m h=>(ns_code h).elim fun o z=>⟨_,o,V.nsl.1,z.1⟩
noncomputable def SE.hi (f:Nat) (x:Str) (as:List (SE sc)) (g h:FA sc) (p1 p:Pos) (hx:sc.nm.fns[f]?=some x) (hg:isGlob sc x=true):SE sc:=⟨.Call (.Name x p1) (exprs as++[g.e,h.e]) [] p,fun Φ σ=>(evL Φ σ as).bind fun ps=>Φ.hi f (fun i=>bif Nat.beq i 0 then g.T σ else h.T σ) ps,⟨fun _ _=>rfl,fun op=>by cases op <;> rfl,fun _ _=>rfl⟩,
 fun {Z σ ws s r} V e Q E q=>onBind e fun ps e1 e=>wpAny_Call_NameR (global V hg (V.K.fns f x (V.nm▸hx)) (V.K.callw f x (V.nm▸hx) _ p [] _ Q E _ (no_stars2 as) (evL_more V e1 fun vs s₁ x₁ V₁ rl=>wpAny_items_cons (g.ok V₁ fun F₀ s₂ x₂ H₀=>wpAny_items_cons (h.ok (V₁.step x₂) fun F₁ s₃ x₃ H₁=>wpAny_pure ⟨((V₁.step x₂).step x₃).g,
  ((V₁.step x₂).step x₃).P.hi f _ vs ps r s₃ _ F₀ F₁ e ((V₁.step x₂).step x₃).toBs.of ((rl.stp V₁.sub x₂).stp V₁.sub x₃) (H₀.later x₃.off) H₁ ((V₁.step x₂).step x₃).toDy.here Q E fun v s₄ x₄ rr=>q v s₄ (((x₁.trans x₂).trans x₃).trans x₄) rr⟩) (h.st _ _)) (g.st _ _)) V.g))⟩
noncomputable def andV (Φ:Fns) (σ:List Slot):SE sc→List (SE sc)→Option PV
 | x,[]=>x.ev Φ σ
 | x,y::r=>(x.ev Φ σ).bind fun a=>(truth a).bind fun k=>bif k then andV Φ σ y r else some a
theorem andV_ok {pos:Pos} {Q:Value→Shared→Prop} {E:Value→Shared→Prop}:∀ {r:List (SE sc)} {x:SE sc} {s:Shared} {p:PV},Ev Z sc σ ws s→andV Z.Φ σ x r=some p→(∀ v s',Stp Z.X Z.X.V s s'→Z.Rep s'.heap p v→Q v s')→wpAny Z.X.M Z.Ar (boolOp pos .And (eval x.e Z.env::r.map fun y=>eval y.e Z.env)) Q E s
 | [],x,s,p,V,e,q=>x.ok V e Q E q
 | y::r,x,s,p,V,e,q=>onBind e fun a e1 e=>onBind e fun k e2 e=>by
  show wpAny Z.X.M Z.Ar (do
   let v ← eval x.e Z.env
   standAt pos
   let t ← holding [v] (truthy v)
   match BoolOp.And,t with
   | .And,false | .Or,true=>pure v
   | _,_=>boolOp pos .And (eval y.e Z.env::r.map fun y=>eval y.e Z.env)) Q E s
  refine wpAny_bind (x.go V e1 fun v s₁ x₁ V₁ r₁=>wpAny_bind (wpAny_standAt (wpAny_bind (wpAny_holding (truth_ok V₁.toBs r₁ e2 _ _ fun s₂ x₂=>?_)))))
  cases k with
  | true=>exact andV_ok (V₁.step x₂) e fun v s₃ x₃ r₃=>q v s₃ ((x₁.trans x₂).trans x₃) r₃
  | false=>exact wpAny_pure (q v s₂ (x₁.trans x₂) (Option.some.inj e▸r₁.stp V₁.sub x₂))
theorem each_map {env:Env}:∀ r:List (SE sc),evalEach (r.map SE.e) env=r.map fun y=>eval y.e env
 | []=>rfl
 | x::r=>congrArg (eval x.e env::·) (each_map r)
noncomputable def SE.andL (x:SE sc) (r:List (SE sc)) (p:Pos):SE sc:=⟨.BoolOp .And (x.e::r.map SE.e) p,fun Φ σ=>andV Φ σ x r,⟨fun _ _=>rfl,fun op=>by cases op <;> rfl,fun _ _=>rfl⟩,
 fun {Z σ ws s b} V e Q E q=>by
  show wpAny Z.X.M Z.Ar (boolOp p .And (eval x.e Z.env::evalEach (r.map SE.e) Z.env)) Q E s
  rw [each_map]
  exact andV_ok V e q⟩
end
end Mine
end
section
open PySem PySem.W PyProof.Rows
namespace Mine
open PySem.SeqAt
section
noncomputable def optI (p:PV):Option (Option Int):=PV.casesOn (motive_1:=fun _=>Option (Option Int)) p (some none) (fun _=>none) (fun i=>some (some i)) (fun _=>none) (fun _=>none) (fun _=>none) (fun _=>none) (fun _ _=>none) fun _ _=>none
noncomputable def neOpt (a b:Option Int):Bool:=Option.casesOn (motive:=fun _=>Bool) a (Option.casesOn (motive:=fun _=>Bool) b false fun _=>true) fun i=>Option.casesOn (motive:=fun _=>Bool) b true fun j=>!(i==j)
theorem optI_is {h:Heap} {B:Addr→Prop} {p:PV} {v:Value} {a:Option Int} (r:Mine.Rep h B p v) (e:optI p=some a):(a=none∧v=.none)∨∃ i t,a=some i∧v=.int i t:=by
 cases p with
 | none=>exact .inl ⟨(Option.some.inj e).symm,r⟩
 | int i=>obtain ⟨t,rfl⟩:=r; exact .inr ⟨i,t,(Option.some.inj e).symm,rfl⟩
 | _=>exact no e
noncomputable def neN:C2 .NotEq:=⟨fun p q=>(optI p).bind fun a=>(optI q).map fun b=>neOpt a b,fun {Z s p q k v w Q E} V rp rq e h=>onBind e fun a e1 e=>onMap e fun b e2 e3=>by
 subst e3
 have fin:RcNeAt Z.Ar s v w (neOpt a b):=by
  rcases optI_is rp e1 with ⟨rfl,rfl⟩ | ⟨i,t,rfl,rfl⟩ <;> rcases optI_is rq e2 with ⟨rfl,rfl⟩ | ⟨j,u,rfl,rfl⟩
  ·exact RcNeAt.none_none
  ·exact RcNeAt.none_int _ _
  ·exact RcNeAt.int_none _ _
  ·exact RcNeAt.int_int _ _ _ _
 exact fin _ _ _ _ h⟩
noncomputable def isNotN:C2 .IsNot:=⟨fun p q=>bif q.isNone then some !p.isNone else none,fun {Z s p q k v w Q E} V rp rq e h=>by
 cases n:q.isNone with
 | false=>rw [n] at e; exact no e
 | true =>
  rw [n] at e
  rw [PV.is_none n] at rq
  obtain rfl:w=_:=rq
  refine wpAny_isNot_plain (plain_none rp).1 ?_
  rw [(plain_none rp).2,Option.some.inj e]; exact h⟩
end
namespace L
section
variable {sc:SC}
noncomputable abbrev dg (x:SD sc) (i:SE sc) (p:Pos):SE sc:=.dget x i p
noncomputable abbrev od (i:Nat) (x:Str) (p:Pos) (h:isVar sc i x=true:=by kernel_rfl):SD sc:=.own i x p h
noncomputable abbrev sd (i:Nat) (x:Str) (p p':Pos) (ix v:SE sc) (pos:Pos) (hm:isVar sc i x=true:=by kernel_rfl) (hs:∀ env,swapsWith v.e (some (.Subscript (.Name x p) ix.e p')) pos.line env=pure false:=by exact fun _=>rfl):SS sc:=.setDict i x p p' ix v pos hm hs
noncomputable abbrev mk (x:SO sc) (st:∀ env es,starEach (x.e::es) env=(false,eval x.e env)::starEach es env:=by exact fun _ _=>rfl):MK sc:=.of x st
noncomputable abbrev o2 (t u:Tg) (m n:MK sc) (k k':Nat) (pp p' pos:Pos) (h:(t.ok sc&&u.ok sc)=true:=by kernel_rfl) (hs:swappedStores [.Tuple [t.e,u.e] 0 noPos] (.Tuple [m.e,n.e] 0 noPos) (scEnv sc)=pure (some [t.x,u.x]):=by kernel_rfl):SS sc:=.own2 t u m n k k' pp p' pos h hs
noncomputable abbrev cf (i:Nat) (x:Str) (as:List (SE sc)) (p1 p:Pos) (hm:isVar sc i x=true:=by kernel_rfl):SE sc:=.callF i x as p1 p hm
noncomputable abbrev fg (f:Nat) (x:Str) (p:Pos) (hx:sc.nm.fns[f]?=some x:=by kernel_rfl) (hg:isGlob sc x=true:=by kernel_rfl):FA sc:=.glob f x p hx hg
noncomputable abbrev fl (isc:Scope) (y:Str) (ip:Arguments) (pos:Pos) (c:Addr) (q:Str) (body:SE (closSC sc isc ([y]++[]))) (hb:lamB sc isc y c pos q=true:=by kernel_rfl) (hp:parOf ip=plainPar [y]:=by rfl) (hdef:∀ env,defaultsOf ip env=([],[]):=by exact fun _=>rfl):FA sc:=.lam isc y ip pos c q body hb hp hdef
noncomputable abbrev hi (f:Nat) (x:Str) (as:List (SE sc)) (g h:FA sc) (p1 p:Pos) (hx:sc.nm.fns[f]?=some x:=by kernel_rfl) (hg:isGlob sc x=true:=by kernel_rfl):SE sc:=.hi f x as g h p1 p hx hg
end
end L
end Mine
end
section
open PySem PySem.W PyProof.Rows
namespace Mine
namespace L
abbrev jN (a b:List (Str × NameKind)):List (Str × NameKind):=a++b
abbrev jS (a b:List Str):List Str:=a++b
noncomputable abbrev P:Program:=PySem.Challenge.pw_ux0036_02
noncomputable abbrev nm:Nms:=⟨["_strip_quoted_realnames","_check_parenthesis","_pre_parse_validation","_div2n1n","_int2digits","_digits2int","_divmod_pos","int_divmod","rgb_to_hls","hls_to_rgb","_v","rgb_to_hsv","hsv_to_rgb","Whitespace","_law_figures","_law_marks","_law_changed","_law_lead","_law_good","_law_read","_law_image","law"],["_iter_escaped_chars"],[("ONE_THIRD",4599676419421066581),("ONE_SIXTH",4595172819793696085),("TWO_THIRD",4604180019048437077)],[("_DIV_LIMIT",4000)],["longest_run_of_spaces","indent_level","equal","not_equal_witness"],188,[(13,"S"," "),(13,"T","\t")],[(235,(qz 356 0 47),"law.<locals>.<lambda>"),(235,(qz 357 0 48),"law.<locals>.<lambda>")]⟩
noncomputable abbrev Dg0:Sig:=⟨[("addr",.local),("pos",.local),("escape",.local),("ch",.local),("enumerate",.globalImplicit)],["addr"],["pos","escape","ch"],none⟩
noncomputable def cg0:GB (Dg0.sc nm):=gb [(zi ⟨1,"pos",(qz 6 4 7)⟩ 0 0 (qz 6 10 11) (qz 6 4 11)),(zb ⟨2,"escape",(qz 7 4 10)⟩ false 0 (qz 7 13 18) (qz 7 4 18))] 0 "addr" (qz 8 19 28) (qz 8 29 33) (qz 8 19 34) ⟨8,4,15,27⟩ (tgn [⟨1,"pos",(qz 8 8 11)⟩,⟨3,"ch",(qz 8 13 15)⟩] 0 (qz 8 8 15))
 (.cons (.ite (tst (SE.x (v 2 "escape" (qz 9 11 17)))) (.cons (.yld (.tup [(v 1 "pos" (qz 10 19 22)),(.bin addSS (.str "\\" 0 (qz 10 24 28)) (v 3 "ch" (qz 10 31 33)) (qz 10 24 33))] 0 (qz 10 18 34)) (qz 10 12 34) (qz 10 12 34)) (.cons (.plain (st ⟨2,"escape",(qz 11 12 18)⟩ (.bool false 0 (qz 11 21 26)) (qz 11 12 26))) .nil)) (.cons (.ite (.cmp eqD (SE.x (v 3 "ch" (qz 12 13 15))) (SE.x (.str "\\" 0 (qz 12 19 23))) (qz 12 13 23)) (.cons (.plain (st ⟨2,"escape",(qz 13 12 18)⟩ (.bool true 0 (qz 13 21 25)) (qz 13 12 25))) .nil) (.cons (.yld (.tup [(v 1 "pos" (qz 15 19 22)),(v 3 "ch" (qz 15 24 26))] 0 (qz 15 18 27)) (qz 15 12 27) (qz 15 12 27)) .nil) ⟨12,8,15,27⟩) .nil) ⟨9,8,15,27⟩) .nil)
 (.cons (.ite (tst (SE.x (v 2 "escape" (qz 16 7 13)))) (.cons (.yld (.tup [(v 1 "pos" (qz 17 15 18)),(.str "\\" 0 (qz 17 20 24))] 0 (qz 17 14 25)) (qz 17 8 25) (qz 17 8 25)) .nil) .nil ⟨16,4,17,25⟩) .nil)
noncomputable abbrev D0:Sig:=⟨[("addr",.local),("start",.local),("open_pos",.local),("result",.local),("pos",.local),("ch",.local),("_iter_escaped_chars",.globalImplicit),("len",.globalImplicit)],["addr"],["start","open_pos","result","pos","ch"],none⟩
noncomputable def c0s0:SS (D0.sc nm):=(.ite (.cmp notInSS (SE.x (.str "\"" 0 (qz 19 7 10))) (SE.x (v 0 "addr" (qz 19 18 22))) (qz 19 7 22)) (.cons (.ret (v 0 "addr" (qz 20 15 19)) (qz 20 8 19))
 .nil) .nil ⟨19,4,20,19⟩)
noncomputable def c0s1:SS (D0.sc nm):=(st ⟨1,"start",(qz 21 4 9)⟩ (.int 0 0 (qz 21 12 13)) (qz 21 4 13))
noncomputable def c0s2:SS (D0.sc nm):=(st ⟨2,"open_pos",(qz 22 4 12)⟩ (.nn 0 (qz 22 15 19)) (qz 22 4 19))
noncomputable def c0s3:SS (D0.sc nm):=(so ⟨3,"result",(qz 23 4 10)⟩ (.lst [] (qz 23 13 15)) (qz 23 4 15))
noncomputable def c0b0:SL (D0.sc nm):=(.cons (.ite (.cmp eqD (SE.x (v 5 "ch" (qz 25 11 13))) (SE.x (.str "\"" 0 (qz 25 17 20))) (qz 25 11 20)) (.cons (.ite (.cmp isN (SE.x (v 2 "open_pos" (qz 26 15 23))) (SE.x (.nn 0 (qz 26 27 31))) (qz 26 15 31)) (.cons (st ⟨2,"open_pos",(qz 27 16 24)⟩ (v 4 "pos" (qz 27 27 30)) (qz 27 16 30))
 .nil) (.cons (.ite (.cmp neD (SE.x (v 1 "start" (qz 29 19 24))) (SE.x (v 2 "open_pos" (qz 29 28 36))) (qz 29 19 36)) (.cons (ap 3 "result" (qz 30 20 26) (qz 30 20 33) (qz 30 20 55) (qz 30 20 55) (.slcS (v 0 "addr" (qz 30 34 38)) (some (v 1 "start" (qz 30 39 44))) (some (v 2 "open_pos" (qz 30 45 53))) (qz 30 39 53) (qz 30 34 54)))
 .nil) .nil ⟨29,16,30,55⟩)
 (.cons (st ⟨1,"start",(qz 31 16 21)⟩ (.bin addII (v 4 "pos" (qz 31 24 27)) (.int 1 0 (qz 31 30 31)) (qz 31 24 31)) (qz 31 16 31))
 (.cons (st ⟨2,"open_pos",(qz 32 16 24)⟩ (.nn 0 (qz 32 27 31)) (qz 32 16 31))
 .nil))) ⟨26,12,32,31⟩)
 .nil) .nil ⟨25,8,32,31⟩)
 .nil)
noncomputable def c0s4:SS (D0.sc nm):=(fr (tgn [⟨4,"pos",(qz 24 8 11)⟩,⟨5,"ch",(qz 24 13 15)⟩] 0 (qz 24 8 15)) (gen 0 "_iter_escaped_chars" [(v 0 "addr" (qz 24 39 43))] (qz 24 19 38) (qz 24 19 44)) c0b0 ⟨24,4,32,31⟩)
noncomputable def c0s5:SS (D0.sc nm):=(.ite (.cmp ltII (SE.x (v 1 "start" (qz 33 7 12))) (SE.x (bi lenB [(v 0 "addr" (qz 33 19 23))] (qz 33 15 18) (qz 33 15 24))) (qz 33 7 24)) (.cons (ap 3 "result" (qz 34 8 14) (qz 34 8 21) (qz 34 8 35) (qz 34 8 35) (.slcS (v 0 "addr" (qz 34 22 26)) (some (v 1 "start" (qz 34 27 32))) none (qz 34 27 33) (qz 34 22 34)))
 .nil) .nil ⟨33,4,34,35⟩)
noncomputable def c0s6:SS (D0.sc nm):=(.ret (me joinM (SE.x (.str "" 0 (qz 35 11 13))) [(SW.x (ow 3 "result" (qz 35 19 25)))] (qz 35 11 18) (qz 35 11 26)) (qz 35 4 26))
noncomputable def c0:SL (D0.sc nm) :=
 (.cons c0s0
 (.cons c0s1
 (.cons c0s2
 (.cons c0s3
 (.cons c0s4
 (.cons c0s5
 (.cons c0s6
 .nil)))))))
noncomputable abbrev D1:Sig:=⟨[("addr",.local),("opens",.local),("pos",.local),("ch",.local),("_strip_quoted_realnames",.globalImplicit),("_iter_escaped_chars",.globalImplicit)],["addr"],["opens","pos","ch"],none⟩
noncomputable def c1s0:SS (D1.sc nm):=(st ⟨0,"addr",(qz 37 4 8)⟩ (call 0 "_strip_quoted_realnames" [(v 0 "addr" (qz 37 35 39))] (qz 37 11 34) (qz 37 11 40)) (qz 37 4 40))
noncomputable def c1s1:SS (D1.sc nm):=(st ⟨1,"opens",(qz 38 4 9)⟩ (.int 0 0 (qz 38 12 13)) (qz 38 4 13))
noncomputable def c1b0:SL (D1.sc nm):=(.cons (.ite (.cmp eqD (SE.x (v 3 "ch" (qz 40 11 13))) (SE.x (.str "(" 0 (qz 40 17 20))) (qz 40 11 20)) (.cons (au iaddI ⟨1,"opens",(qz 41 12 17)⟩ (.int 1 0 (qz 41 21 22)) (qz 41 12 22))
 .nil) (.cons (.ite (.cmp eqD (SE.x (v 3 "ch" (qz 42 13 15))) (SE.x (.str ")" 0 (qz 42 19 22))) (qz 42 13 22)) (.cons (au isubI ⟨1,"opens",(qz 43 12 17)⟩ (.int 1 0 (qz 43 21 22)) (qz 43 12 22))
 (.cons (.ite (.cmp ltII (SE.x (v 1 "opens" (qz 44 15 20))) (SE.x (.int 0 0 (qz 44 23 24))) (qz 44 15 24)) (.cons (.ret (.bool false 0 (qz 45 23 28)) (qz 45 16 28))
 .nil) .nil ⟨44,12,45,28⟩)
 .nil)) .nil ⟨42,8,45,28⟩)
 .nil) ⟨40,8,45,28⟩)
 .nil)
noncomputable def c1s2:SS (D1.sc nm):=(fr (tgn [⟨2,"pos",(qz 39 8 11)⟩,⟨3,"ch",(qz 39 13 15)⟩] 0 (qz 39 8 15)) (gen 0 "_iter_escaped_chars" [(v 0 "addr" (qz 39 39 43))] (qz 39 19 38) (qz 39 19 44)) c1b0 ⟨39,4,45,28⟩)
noncomputable def c1s3:SS (D1.sc nm):=(.ret (.cmp eqD (SE.x (v 1 "opens" (qz 46 11 16))) (SE.x (.int 0 0 (qz 46 20 21))) (qz 46 11 21)) (qz 46 4 21))
noncomputable def c1:SL (D1.sc nm) :=
 (.cons c1s0
 (.cons c1s1
 (.cons c1s2
 (.cons c1s3
 .nil))))
noncomputable abbrev D2:Sig:=⟨[("email_header_fields",.local),("accepted_values",.local),("v",.local),("_check_parenthesis",.globalImplicit)],["email_header_fields"],["accepted_values","v"],none⟩
noncomputable def c2s0:SS (D2.sc nm):=(so ⟨1,"accepted_values",(qz 48 4 19)⟩ (.lst [] (qz 48 22 24)) (qz 48 4 24))
noncomputable def c2b0:SL (D2.sc nm):=(.cons (.ite (.neg (tst (SE.x (call 1 "_check_parenthesis" [(v 2 "v" (qz 50 34 35))] (qz 50 15 33) (qz 50 15 36)))) (qz 50 11 36)) (.cons (st ⟨2,"v",(qz 51 12 13)⟩ (.str "('', '')" 0 (qz 51 16 26)) (qz 51 12 26))
 .nil) .nil ⟨50,8,51,26⟩)
 (.cons (ap 1 "accepted_values" (qz 52 8 23) (qz 52 8 30) (qz 52 8 33) (qz 52 8 33) (v 2 "v" (qz 52 31 32)))
 .nil))
noncomputable def c2s1:SS (D2.sc nm):=(fr (tg1 ⟨2,"v",(qz 49 8 9)⟩) (.lst (v 0 "email_header_fields" (qz 49 13 32))) c2b0 ⟨49,4,52,33⟩)
noncomputable def c2s2:SS (D2.sc nm):=(.ret (v 1 "accepted_values" (qz 53 11 26)) (qz 53 4 26))
noncomputable def c2:SL (D2.sc nm) :=
 (.cons c2s0
 (.cons c2s1
 (.freeze 1 (.cons c2s2
 .nil))))
noncomputable abbrev D3:Sig:=⟨[("a",.local),("b",.local),("n",.local),("pad",.local),("half_n",.local),("mask",.local),("b1",.local),("b2",.local),("q1",.local),("r",.local),("q2",.local),("_DIV_LIMIT",.globalImplicit),("divmod",.globalImplicit),("_div3n2n",.globalImplicit)],["a","b","n"],["pad","half_n","mask","b1","b2","q1","r","q2"],none⟩
noncomputable def c3:SL (D3.sc nm):=.cons (.ite (.cmp leII (SE.x (.bin subII (me bitM (SE.x (v 0 "a" (qz 57 7 8))) [] (qz 57 7 19) (qz 57 7 21)) (v 2 "n" (qz 57 24 25)) (qz 57 7 25))) (SE.x (gi "_DIV_LIMIT" 4000 (qz 57 29 39))) (qz 57 7 39)) (.cons (.ret (bi divB [(v 0 "a" (qz 58 22 23)),(v 1 "b" (qz 58 25 26))] (qz 58 15 21) (qz 58 15 27)) (qz 58 8 27))
 .nil) .nil ⟨57,4,58,27⟩) (.cut ((bodyAt P 8).drop 1))
noncomputable abbrev D4:Sig:=⟨[("a",.local),("n",.cell),("a_digits",.cell),("inner",.cell),("len",.globalImplicit)],["a","n"],["a_digits","inner"],none⟩
noncomputable abbrev I4:Scope:=⟨.function,[("x",.local),("L",.local),("R",.local),("mid",.local),("shift",.local),("upper",.local),("lower",.local),("a_digits",.free),("inner",.free),("n",.free)],false,false,[]⟩
noncomputable def c4:DefS (D4.sc nm) ["x","L","R"] ["mid","shift","upper","lower"]:=dS (so ⟨2,"a_digits",(qz 83 4 12)⟩ (.rep (.lst [(.int 0 0 (qz 83 16 17))] (qz 83 15 18)) (.bin fdivII (.bin subII (.bin addII (me bitM (SE.x (v 0 "a" (qz 83 23 24))) [] (qz 83 23 35) (qz 83 23 37)) (v 1 "n" (qz 83 40 41)) (qz 83 23 41)) (.int 1 0 (qz 83 44 45)) (qz 83 23 45)) (v 1 "n" (qz 83 50 51)) (qz 83 22 51)) (qz 83 15 52)) (qz 83 4 52)) I4
 (clS (.cmp eqD (SE.x (.bin addII (v 1 "L" (qz 86 11 12)) (.int 1 0 (qz 86 15 16)) (qz 86 11 16))) (SE.x (v 2 "R" (qz 86 20 21))) (qz 86 11 21)) (si 9 "a_digits" (qz 87 12 20) (qz 87 12 23) (v 1 "L" (qz 87 21 22)) (v 0 "x" (qz 87 26 27)) (qz 87 12 27)) (qz 88 12 18) ⟨86,8,88,18⟩ (.cons (st ⟨3,"mid",(qz 89 8 11)⟩ (.bin rshII (.bin addII (v 1 "L" (qz 89 14 15)) (v 2 "R" (qz 89 18 19)) (qz 89 14 19)) (.int 1 0 (qz 89 23 24)) (qz 89 14 24)) (qz 89 8 24))
 (.cons (st ⟨4,"shift",(qz 90 8 13)⟩ (.bin mulII (.bin subII (v 3 "mid" (qz 90 17 20)) (v 1 "L" (qz 90 23 24)) (qz 90 17 24)) (v 8 "n" (qz 90 28 29)) (qz 90 16 29)) (qz 90 8 29))
 (.cons (st ⟨5,"upper",(qz 91 8 13)⟩ (.bin rshII (v 0 "x" (qz 91 16 17)) (v 4 "shift" (qz 91 21 26)) (qz 91 16 26)) (qz 91 8 26))
 (.cons (st ⟨6,"lower",(qz 92 8 13)⟩ (.bin xorII (v 0 "x" (qz 92 16 17)) (.bin lshII (v 5 "upper" (qz 92 20 25)) (v 4 "shift" (qz 92 29 34)) (qz 92 20 34)) (qz 92 16 34)) (qz 92 8 34))
 .nil)))) [(v 6 "lower" (qz 93 14 19)),(v 1 "L" (qz 93 21 22)),(v 3 "mid" (qz 93 24 27))] [(v 5 "upper" (qz 94 14 19)),(v 3 "mid" (qz 94 21 24)),(v 2 "R" (qz 94 26 27))] 10 10 "inner" "inner" (qz 93 8 13) (qz 93 8 28) (qz 93 8 28) (qz 94 8 13) (qz 94 8 28) (qz 94 8 28))
 ⟨3,"inner",⟨85,4,94,28⟩⟩ ⟨[],[⟨"x",none,(qz 85 14 15)⟩,⟨"L",none,(qz 85 17 18)⟩,⟨"R",none,(qz 85 20 21)⟩],none,[],[],none,[]⟩ ⟨85,4,94,28⟩ (tst (SE.x (v 0 "a" (qz 95 7 8)))) 3 "inner" [(v 0 "a" (qz 96 14 15)),(.int 0 0 (qz 96 17 18)),(biX lenB (SW.x (ow 2 "a_digits" (qz 96 24 32))) (qz 96 20 23) (qz 96 20 33) lenB_sc)] (qz 96 8 13) (qz 96 8 34) (qz 96 8 34) ⟨95,4,96,34⟩ (.freeze 2 (.cons (.ret (v 2 "a_digits" (qz 97 11 19)) (qz 97 4 19))
 .nil))
noncomputable abbrev D5:Sig:=⟨[("digits",.cell),("n",.cell),("inner",.cell),("len",.globalImplicit)],["digits","n"],["inner"],none⟩
noncomputable abbrev I5:Scope:=⟨.function,[("L",.local),("R",.local),("mid",.local),("shift",.local),("digits",.free),("inner",.free),("n",.free)],false,false,[]⟩
noncomputable def c5:DefE (D5.sc nm) ["L","R"] ["mid","shift"]:=dE I5
 (clE (.cmp eqD (SE.x (.bin addII (v 0 "L" (qz 101 11 12)) (.int 1 0 (qz 101 15 16)) (qz 101 11 16))) (SE.x (v 1 "R" (qz 101 20 21))) (qz 101 11 21)) (.idx (.of (v 4 "digits" (qz 102 19 25))) (v 0 "L" (qz 102 26 27)) (qz 102 19 28)) (qz 102 12 28) ⟨101,8,102,28⟩ (.cons (st ⟨2,"mid",(qz 103 8 11)⟩ (.bin rshII (.bin addII (v 0 "L" (qz 103 14 15)) (v 1 "R" (qz 103 18 19)) (qz 103 14 19)) (.int 1 0 (qz 103 23 24)) (qz 103 14 24)) (qz 103 8 24))
 (.cons (st ⟨3,"shift",(qz 104 8 13)⟩ (.bin mulII (.bin subII (v 2 "mid" (qz 104 17 20)) (v 0 "L" (qz 104 23 24)) (qz 104 17 24)) (v 5 "n" (qz 104 28 29)) (qz 104 16 29)) (qz 104 8 29))
 .nil)) [(v 2 "mid" (qz 105 22 25)),(v 1 "R" (qz 105 27 28))] [(v 0 "L" (qz 105 48 49)),(v 2 "mid" (qz 105 51 54))] (v 3 "shift" (qz 105 33 38)) 6 6 "inner" "inner" (qz 105 16 21) (qz 105 16 29) (qz 105 16 38) (qz 105 42 47) (qz 105 42 55) (qz 105 15 55) (qz 105 8 55))
 ⟨2,"inner",⟨100,4,105,55⟩⟩ ⟨[],[⟨"L",none,(qz 100 14 15)⟩,⟨"R",none,(qz 100 17 18)⟩],none,[],[],none,[]⟩ ⟨100,4,105,55⟩ (tst (SE.x (v 0 "digits" (qz 106 36 42)))) (.int 0 0 (qz 106 48 49)) 2 "inner" [(.int 0 0 (qz 106 17 18)),(bi lenB [(v 0 "digits" (qz 106 24 30))] (qz 106 20 23) (qz 106 20 31))] (qz 106 11 16) (qz 106 11 32) (qz 106 11 49) (qz 106 4 49)
noncomputable abbrev D6:Sig:=⟨[("a",.local),("b",.local),("n",.local),("a_digits",.local),("r",.local),("q_digits",.local),("a_digit",.local),("q_digit",.local),("q",.local),("_int2digits",.globalImplicit),("reversed",.globalImplicit),("_div2n1n",.globalImplicit),("_digits2int",.globalImplicit)],["a","b"],["n","a_digits","r","q_digits","a_digit","q_digit","q"],none⟩
noncomputable def c6:SL (D6.sc nm) :=
 (.cons (st ⟨2,"n",(qz 108 4 5)⟩ (me bitM (SE.x (v 1 "b" (qz 108 8 9))) [] (qz 108 8 20) (qz 108 8 22)) (qz 108 4 22))
 (.cons (st ⟨3,"a_digits",(qz 109 4 12)⟩ (call 4 "_int2digits" [(v 0 "a" (qz 109 27 28)),(v 2 "n" (qz 109 30 31))] (qz 109 15 26) (qz 109 15 32)) (qz 109 4 32))
 (.cons (st ⟨4,"r",(qz 110 4 5)⟩ (.int 0 0 (qz 110 8 9)) (qz 110 4 9))
 (.cons (so ⟨5,"q_digits",(qz 111 4 12)⟩ (.lst [] (qz 111 15 17)) (qz 111 4 17))
 (.cons (fr (tg1 ⟨6,"a_digit",(qz 112 8 15)⟩) (rvd (v 3 "a_digits" (qz 112 28 36)) (qz 112 19 27) (qz 112 19 37)) (.cons (mv true [⟨7,"q_digit",(qz 113 8 15)⟩,⟨4,"r",(qz 113 17 18)⟩] 0 (qz 113 8 18) (call 3 "_div2n1n" [(.bin addII (.bin lshII (v 4 "r" (qz 113 31 32)) (v 2 "n" (qz 113 36 37)) (qz 113 31 37)) (v 6 "a_digit" (qz 113 41 48)) (qz 113 30 48)),(v 1 "b" (qz 113 50 51)),(v 2 "n" (qz 113 53 54))] (qz 113 21 29) (qz 113 21 55)) (qz 113 8 55))
 (.cons (ap 5 "q_digits" (qz 114 8 16) (qz 114 8 23) (qz 114 8 32) (qz 114 8 32) (v 7 "q_digit" (qz 114 24 31)))
 .nil)) ⟨112,4,114,32⟩)
 (.cons (rv 5 "q_digits" (qz 115 4 12) (qz 115 4 20) (qz 115 4 22) (qz 115 4 22))
 (.freeze 5 (.cons (st ⟨8,"q",(qz 116 4 5)⟩ (call 5 "_digits2int" [(v 5 "q_digits" (qz 116 20 28)),(v 2 "n" (qz 116 30 31))] (qz 116 8 19) (qz 116 8 32)) (qz 116 4 32))
 (.cons (.ret (.tup [(v 8 "q" (qz 117 12 13)),(v 4 "r" (qz 117 15 16))] 0 (qz 117 11 17)) (qz 117 4 17))
 .nil)))))))))
noncomputable abbrev D7:Sig:=⟨[("a",.local),("b",.local),("q",.local),("r",.local),("ZeroDivisionError",.globalImplicit),("int_divmod",.globalImplicit),("_divmod_pos",.globalImplicit)],["a","b"],["q","r"],none⟩
noncomputable def c7:SL (D7.sc nm) :=
 (.cons (.ite (.cmp eqD (SE.x (v 1 "b" (qz 119 7 8))) (SE.x (.int 0 0 (qz 119 12 13))) (qz 119 7 13)) (.cut [.Raise (some (.Name "ZeroDivisionError" (qz 120 14 31))) none (qz 120 8 31)]) (.cons (.ite (.cmp ltII (SE.x (v 1 "b" (qz 121 9 10))) (SE.x (.int 0 0 (qz 121 13 14))) (qz 121 9 14)) (.cons (mv true [⟨2,"q",(qz 122 8 9)⟩,⟨3,"r",(qz 122 11 12)⟩] 0 (qz 122 8 12) (call 7 "int_divmod" [(.una negI (v 0 "a" (qz 122 27 28)) (qz 122 26 28)),(.una negI (v 1 "b" (qz 122 31 32)) (qz 122 30 32))] (qz 122 15 25) (qz 122 15 33)) (qz 122 8 33))
 (.cons (.ret (.tup [(v 2 "q" (qz 123 16 17)),(.una negI (v 3 "r" (qz 123 20 21)) (qz 123 19 21))] 0 (qz 123 15 22)) (qz 123 8 22))
 .nil)) (.cons (.ite (.cmp ltII (SE.x (v 0 "a" (qz 124 9 10))) (SE.x (.int 0 0 (qz 124 13 14))) (qz 124 9 14)) (.cons (mv true [⟨2,"q",(qz 125 8 9)⟩,⟨3,"r",(qz 125 11 12)⟩] 0 (qz 125 8 12) (call 7 "int_divmod" [(.una invI (v 0 "a" (qz 125 27 28)) (qz 125 26 28)),(v 1 "b" (qz 125 30 31))] (qz 125 15 25) (qz 125 15 32)) (qz 125 8 32))
 (.cons (.ret (.tup [(.una invI (v 2 "q" (qz 126 17 18)) (qz 126 16 18)),(.bin addII (v 1 "b" (qz 126 20 21)) (.una invI (v 3 "r" (qz 126 25 26)) (qz 126 24 26)) (qz 126 20 26))] 0 (qz 126 15 27)) (qz 126 8 27))
 .nil)) (.cons (.ret (call 6 "_divmod_pos" [(v 0 "a" (qz 128 27 28)),(v 1 "b" (qz 128 30 31))] (qz 128 15 26) (qz 128 15 32)) (qz 128 8 32))
 .nil) ⟨124,4,128,32⟩)
 .nil) ⟨121,4,128,32⟩)
 .nil) ⟨119,4,128,32⟩)
 .nil)
noncomputable abbrev D8:Sig:=⟨[("r",.local),("g",.local),("b",.local),("maxc",.local),("minc",.local),("sumc",.local),("rangec",.local),("l",.local),("s",.local),("rc",.local),("gc",.local),("bc",.local),("h",.local),("max",.globalImplicit),("min",.globalImplicit)],["r","g","b"],["maxc","minc","sumc","rangec","l","s","rc","gc","bc","h"],none⟩
noncomputable def c8:SL (D8.sc nm) :=
 (.cons (st ⟨3,"maxc",(qz 134 4 8)⟩ (bi max3 [(v 0 "r" (qz 134 15 16)),(v 1 "g" (qz 134 18 19)),(v 2 "b" (qz 134 21 22))] (qz 134 11 14) (qz 134 11 23)) (qz 134 4 23))
 (.cons (st ⟨4,"minc",(qz 135 4 8)⟩ (bi min3 [(v 0 "r" (qz 135 15 16)),(v 1 "g" (qz 135 18 19)),(v 2 "b" (qz 135 21 22))] (qz 135 11 14) (qz 135 11 23)) (qz 135 4 23))
 (.cons (st ⟨5,"sumc",(qz 136 4 8)⟩ (.bin addFF (v 3 "maxc" (qz 136 11 15)) (v 4 "minc" (qz 136 18 22)) (qz 136 11 22)) (qz 136 4 22))
 (.cons (st ⟨6,"rangec",(qz 137 4 10)⟩ (.bin subFF (v 3 "maxc" (qz 137 13 17)) (v 4 "minc" (qz 137 20 24)) (qz 137 13 24)) (qz 137 4 24))
 (.cons (st ⟨7,"l",(qz 138 4 5)⟩ (.bin divFF (v 5 "sumc" (qz 138 8 12)) (.flt 0x4000000000000000 0 (qz 138 15 18)) (qz 138 8 18)) (qz 138 4 18))
 (.cons (.ite (.cmp eqFF (SE.x (v 4 "minc" (qz 139 7 11))) (SE.x (v 3 "maxc" (qz 139 15 19))) (qz 139 7 19)) (.cons (.ret (.tup [(.flt 0x0000000000000000 0 (qz 140 16 19)),(v 7 "l" (qz 140 21 22)),(.flt 0x0000000000000000 0 (qz 140 24 27))] 0 (qz 140 15 28)) (qz 140 8 28))
 .nil) .nil ⟨139,4,140,28⟩)
 (.cons (.ite (.cmp leFF (SE.x (v 7 "l" (qz 141 7 8))) (SE.x (.flt 0x3fe0000000000000 0 (qz 141 12 15))) (qz 141 7 15)) (.cons (st ⟨8,"s",(qz 142 8 9)⟩ (.bin divFF (v 6 "rangec" (qz 142 12 18)) (v 5 "sumc" (qz 142 21 25)) (qz 142 12 25)) (qz 142 8 25))
 .nil) (.cons (st ⟨8,"s",(qz 144 8 9)⟩ (.bin divFF (v 6 "rangec" (qz 144 12 18)) (.bin subFF (.bin subFF (.flt 0x4000000000000000 0 (qz 144 22 25)) (v 3 "maxc" (qz 144 28 32)) (qz 144 22 32)) (v 4 "minc" (qz 144 35 39)) (qz 144 22 39)) (qz 144 12 40)) (qz 144 8 40))
 .nil) ⟨141,4,144,40⟩)
 (.cons (st ⟨9,"rc",(qz 145 4 6)⟩ (.bin divFF (.bin subFF (v 3 "maxc" (qz 145 10 14)) (v 0 "r" (qz 145 17 18)) (qz 145 10 18)) (v 6 "rangec" (qz 145 22 28)) (qz 145 9 28)) (qz 145 4 28))
 (.cons (st ⟨10,"gc",(qz 146 4 6)⟩ (.bin divFF (.bin subFF (v 3 "maxc" (qz 146 10 14)) (v 1 "g" (qz 146 17 18)) (qz 146 10 18)) (v 6 "rangec" (qz 146 22 28)) (qz 146 9 28)) (qz 146 4 28))
 (.cons (st ⟨11,"bc",(qz 147 4 6)⟩ (.bin divFF (.bin subFF (v 3 "maxc" (qz 147 10 14)) (v 2 "b" (qz 147 17 18)) (qz 147 10 18)) (v 6 "rangec" (qz 147 22 28)) (qz 147 9 28)) (qz 147 4 28))
 (.cons (.ite (.cmp eqFF (SE.x (v 0 "r" (qz 148 7 8))) (SE.x (v 3 "maxc" (qz 148 12 16))) (qz 148 7 16)) (.cons (st ⟨12,"h",(qz 149 8 9)⟩ (.bin subFF (v 11 "bc" (qz 149 12 14)) (v 10 "gc" (qz 149 17 19)) (qz 149 12 19)) (qz 149 8 19))
 .nil) (.cons (.ite (.cmp eqFF (SE.x (v 1 "g" (qz 150 9 10))) (SE.x (v 3 "maxc" (qz 150 14 18))) (qz 150 9 18)) (.cons (st ⟨12,"h",(qz 151 8 9)⟩ (.bin subFF (.bin addFF (.flt 0x4000000000000000 0 (qz 151 12 15)) (v 9 "rc" (qz 151 18 20)) (qz 151 12 20)) (v 11 "bc" (qz 151 23 25)) (qz 151 12 25)) (qz 151 8 25))
 .nil) (.cons (st ⟨12,"h",(qz 153 8 9)⟩ (.bin subFF (.bin addFF (.flt 0x4010000000000000 0 (qz 153 12 15)) (v 10 "gc" (qz 153 18 20)) (qz 153 12 20)) (v 9 "rc" (qz 153 23 25)) (qz 153 12 25)) (qz 153 8 25))
 .nil) ⟨150,4,153,25⟩)
 .nil) ⟨148,4,153,25⟩)
 (.cons (st ⟨12,"h",(qz 154 4 5)⟩ (.bin modFF (.bin divFF (v 12 "h" (qz 154 8 9)) (.flt 0x4018000000000000 0 (qz 154 12 15)) (qz 154 8 15)) (.flt 0x3ff0000000000000 0 (qz 154 18 21)) (qz 154 8 21)) (qz 154 4 21))
 (.cons (.ret (.tup [(v 12 "h" (qz 155 12 13)),(v 7 "l" (qz 155 15 16)),(v 8 "s" (qz 155 18 19))] 0 (qz 155 11 20)) (qz 155 4 20))
 .nil)))))))))))))
noncomputable abbrev D9:Sig:=⟨[("h",.local),("l",.local),("s",.local),("m2",.local),("m1",.local),("_v",.globalImplicit),("ONE_THIRD",.globalImplicit)],["h","l","s"],["m2","m1"],none⟩
noncomputable def c9:SL (D9.sc nm) :=
 (.cons (.ite (.cmp eqFF (SE.x (v 2 "s" (qz 157 7 8))) (SE.x (.flt 0x0000000000000000 0 (qz 157 12 15))) (qz 157 7 15)) (.cons (.ret (.tup [(v 1 "l" (qz 158 16 17)),(v 1 "l" (qz 158 19 20)),(v 1 "l" (qz 158 22 23))] 0 (qz 158 15 24)) (qz 158 8 24))
 .nil) .nil ⟨157,4,158,24⟩)
 (.cons (.ite (.cmp leFF (SE.x (v 1 "l" (qz 159 7 8))) (SE.x (.flt 0x3fe0000000000000 0 (qz 159 12 15))) (qz 159 7 15)) (.cons (st ⟨3,"m2",(qz 160 8 10)⟩ (.bin mulFF (v 1 "l" (qz 160 13 14)) (.bin addFF (.flt 0x3ff0000000000000 0 (qz 160 18 21)) (v 2 "s" (qz 160 24 25)) (qz 160 18 25)) (qz 160 13 26)) (qz 160 8 26))
 .nil) (.cons (st ⟨3,"m2",(qz 162 8 10)⟩ (.bin subFF (.bin addFF (v 1 "l" (qz 162 13 14)) (v 2 "s" (qz 162 17 18)) (qz 162 13 18)) (.bin mulFF (v 1 "l" (qz 162 21 22)) (v 2 "s" (qz 162 25 26)) (qz 162 21 26)) (qz 162 13 26)) (qz 162 8 26))
 .nil) ⟨159,4,162,26⟩)
 (.cons (st ⟨4,"m1",(qz 163 4 6)⟩ (.bin subFF (.bin mulFF (.flt 0x4000000000000000 0 (qz 163 9 12)) (v 1 "l" (qz 163 15 16)) (qz 163 9 16)) (v 3 "m2" (qz 163 19 21)) (qz 163 9 21)) (qz 163 4 21))
 (.cons (.ret (.tup [(call 10 "_v" [(v 4 "m1" (qz 164 15 17)),(v 3 "m2" (qz 164 19 21)),(.bin addFF (v 0 "h" (qz 164 23 24)) (gf "ONE_THIRD" 4599676419421066581 (qz 164 27 36)) (qz 164 23 36))] (qz 164 12 14) (qz 164 12 37)),(call 10 "_v" [(v 4 "m1" (qz 164 42 44)),(v 3 "m2" (qz 164 46 48)),(v 0 "h" (qz 164 50 51))] (qz 164 39 41) (qz 164 39 52)),(call 10 "_v" [(v 4 "m1" (qz 164 57 59)),(v 3 "m2" (qz 164 61 63)),(.bin subFF (v 0 "h" (qz 164 65 66)) (gf "ONE_THIRD" 4599676419421066581 (qz 164 69 78)) (qz 164 65 78))] (qz 164 54 56) (qz 164 54 79))] 0 (qz 164 11 80)) (qz 164 4 80))
 .nil))))
noncomputable abbrev D10:Sig:=⟨[("m1",.local),("m2",.local),("hue",.local),("ONE_SIXTH",.globalImplicit),("TWO_THIRD",.globalImplicit)],["m1","m2","hue"],[],none⟩
noncomputable def c10:SL (D10.sc nm) :=
 (.cons (st ⟨2,"hue",(qz 166 4 7)⟩ (.bin modFF (v 2 "hue" (qz 166 10 13)) (.flt 0x3ff0000000000000 0 (qz 166 16 19)) (qz 166 10 19)) (qz 166 4 19))
 (.cons (.ite (.cmp ltFF (SE.x (v 2 "hue" (qz 167 7 10))) (SE.x (gf "ONE_SIXTH" 4595172819793696085 (qz 167 13 22))) (qz 167 7 22)) (.cons (.ret (.bin addFF (v 0 "m1" (qz 168 15 17)) (.bin mulFF (.bin mulFF (.bin subFF (v 1 "m2" (qz 168 21 23)) (v 0 "m1" (qz 168 26 28)) (qz 168 21 28)) (v 2 "hue" (qz 168 32 35)) (qz 168 20 35)) (.flt 0x4018000000000000 0 (qz 168 38 41)) (qz 168 20 41)) (qz 168 15 41)) (qz 168 8 41))
 .nil) .nil ⟨167,4,168,41⟩)
 (.cons (.ite (.cmp ltFF (SE.x (v 2 "hue" (qz 169 7 10))) (SE.x (.flt 0x3fe0000000000000 0 (qz 169 13 16))) (qz 169 7 16)) (.cons (.ret (v 1 "m2" (qz 170 15 17)) (qz 170 8 17))
 .nil) .nil ⟨169,4,170,17⟩)
 (.cons (.ite (.cmp ltFF (SE.x (v 2 "hue" (qz 171 7 10))) (SE.x (gf "TWO_THIRD" 4604180019048437077 (qz 171 13 22))) (qz 171 7 22)) (.cons (.ret (.bin addFF (v 0 "m1" (qz 172 15 17)) (.bin mulFF (.bin mulFF (.bin subFF (v 1 "m2" (qz 172 21 23)) (v 0 "m1" (qz 172 26 28)) (qz 172 21 28)) (.bin subFF (gf "TWO_THIRD" 4604180019048437077 (qz 172 33 42)) (v 2 "hue" (qz 172 45 48)) (qz 172 33 48)) (qz 172 20 49)) (.flt 0x4018000000000000 0 (qz 172 52 55)) (qz 172 20 55)) (qz 172 15 55)) (qz 172 8 55))
 .nil) .nil ⟨171,4,172,55⟩)
 (.cons (.ret (v 0 "m1" (qz 173 11 13)) (qz 173 4 13))
 .nil)))))
noncomputable abbrev D11:Sig:=⟨[("r",.local),("g",.local),("b",.local),("maxc",.local),("minc",.local),("rangec",.local),("v",.local),("s",.local),("rc",.local),("gc",.local),("bc",.local),("h",.local),("max",.globalImplicit),("min",.globalImplicit)],["r","g","b"],["maxc","minc","rangec","v","s","rc","gc","bc","h"],none⟩
noncomputable def c11:SL (D11.sc nm) :=
 (.cons (st ⟨3,"maxc",(qz 175 4 8)⟩ (bi max3 [(v 0 "r" (qz 175 15 16)),(v 1 "g" (qz 175 18 19)),(v 2 "b" (qz 175 21 22))] (qz 175 11 14) (qz 175 11 23)) (qz 175 4 23))
 (.cons (st ⟨4,"minc",(qz 176 4 8)⟩ (bi min3 [(v 0 "r" (qz 176 15 16)),(v 1 "g" (qz 176 18 19)),(v 2 "b" (qz 176 21 22))] (qz 176 11 14) (qz 176 11 23)) (qz 176 4 23))
 (.cons (st ⟨5,"rangec",(qz 177 4 10)⟩ (.bin subFF (v 3 "maxc" (qz 177 13 17)) (v 4 "minc" (qz 177 20 24)) (qz 177 13 24)) (qz 177 4 24))
 (.cons (st ⟨6,"v",(qz 178 4 5)⟩ (v 3 "maxc" (qz 178 8 12)) (qz 178 4 12))
 (.cons (.ite (.cmp eqFF (SE.x (v 4 "minc" (qz 179 7 11))) (SE.x (v 3 "maxc" (qz 179 15 19))) (qz 179 7 19)) (.cons (.ret (.tup [(.flt 0x0000000000000000 0 (qz 180 16 19)),(.flt 0x0000000000000000 0 (qz 180 21 24)),(v 6 "v" (qz 180 26 27))] 0 (qz 180 15 28)) (qz 180 8 28))
 .nil) .nil ⟨179,4,180,28⟩)
 (.cons (st ⟨7,"s",(qz 181 4 5)⟩ (.bin divFF (v 5 "rangec" (qz 181 8 14)) (v 3 "maxc" (qz 181 17 21)) (qz 181 8 21)) (qz 181 4 21))
 (.cons (st ⟨8,"rc",(qz 182 4 6)⟩ (.bin divFF (.bin subFF (v 3 "maxc" (qz 182 10 14)) (v 0 "r" (qz 182 17 18)) (qz 182 10 18)) (v 5 "rangec" (qz 182 22 28)) (qz 182 9 28)) (qz 182 4 28))
 (.cons (st ⟨9,"gc",(qz 183 4 6)⟩ (.bin divFF (.bin subFF (v 3 "maxc" (qz 183 10 14)) (v 1 "g" (qz 183 17 18)) (qz 183 10 18)) (v 5 "rangec" (qz 183 22 28)) (qz 183 9 28)) (qz 183 4 28))
 (.cons (st ⟨10,"bc",(qz 184 4 6)⟩ (.bin divFF (.bin subFF (v 3 "maxc" (qz 184 10 14)) (v 2 "b" (qz 184 17 18)) (qz 184 10 18)) (v 5 "rangec" (qz 184 22 28)) (qz 184 9 28)) (qz 184 4 28))
 (.cons (.ite (.cmp eqFF (SE.x (v 0 "r" (qz 185 7 8))) (SE.x (v 3 "maxc" (qz 185 12 16))) (qz 185 7 16)) (.cons (st ⟨11,"h",(qz 186 8 9)⟩ (.bin subFF (v 10 "bc" (qz 186 12 14)) (v 9 "gc" (qz 186 17 19)) (qz 186 12 19)) (qz 186 8 19))
 .nil) (.cons (.ite (.cmp eqFF (SE.x (v 1 "g" (qz 187 9 10))) (SE.x (v 3 "maxc" (qz 187 14 18))) (qz 187 9 18)) (.cons (st ⟨11,"h",(qz 188 8 9)⟩ (.bin subFF (.bin addFF (.flt 0x4000000000000000 0 (qz 188 12 15)) (v 8 "rc" (qz 188 18 20)) (qz 188 12 20)) (v 10 "bc" (qz 188 23 25)) (qz 188 12 25)) (qz 188 8 25))
 .nil) (.cons (st ⟨11,"h",(qz 190 8 9)⟩ (.bin subFF (.bin addFF (.flt 0x4010000000000000 0 (qz 190 12 15)) (v 9 "gc" (qz 190 18 20)) (qz 190 12 20)) (v 8 "rc" (qz 190 23 25)) (qz 190 12 25)) (qz 190 8 25))
 .nil) ⟨187,4,190,25⟩)
 .nil) ⟨185,4,190,25⟩)
 (.cons (st ⟨11,"h",(qz 191 4 5)⟩ (.bin modFF (.bin divFF (v 11 "h" (qz 191 8 9)) (.flt 0x4018000000000000 0 (qz 191 12 15)) (qz 191 8 15)) (.flt 0x3ff0000000000000 0 (qz 191 18 21)) (qz 191 8 21)) (qz 191 4 21))
 (.cons (.ret (.tup [(v 11 "h" (qz 192 12 13)),(v 7 "s" (qz 192 15 16)),(v 6 "v" (qz 192 18 19))] 0 (qz 192 11 20)) (qz 192 4 20))
 .nil))))))))))))
noncomputable abbrev D12:Sig:=⟨[("h",.local),("s",.local),("v",.local),("i",.local),("f",.local),("p",.local),("q",.local),("t",.local),("int",.globalImplicit)],["h","s","v"],["i","f","p","q","t"],none⟩
noncomputable def c12:SL (D12.sc nm) :=
 (.cons (.ite (.cmp eqFF (SE.x (v 1 "s" (qz 194 7 8))) (SE.x (.flt 0x0000000000000000 0 (qz 194 12 15))) (qz 194 7 15)) (.cons (.ret (.tup [(v 2 "v" (qz 195 16 17)),(v 2 "v" (qz 195 19 20)),(v 2 "v" (qz 195 22 23))] 0 (qz 195 15 24)) (qz 195 8 24))
 .nil) .nil ⟨194,4,195,24⟩)
 (.cons (st ⟨3,"i",(qz 196 4 5)⟩ (bi intF [(.bin mulFF (v 0 "h" (qz 196 12 13)) (.flt 0x4018000000000000 0 (qz 196 16 19)) (qz 196 12 19))] (qz 196 8 11) (qz 196 8 20)) (qz 196 4 20))
 (.cons (st ⟨4,"f",(qz 197 4 5)⟩ (.bin subFI (.bin mulFF (v 0 "h" (qz 197 8 9)) (.flt 0x4018000000000000 0 (qz 197 12 15)) (qz 197 8 15)) (v 3 "i" (qz 197 18 19)) (qz 197 8 19)) (qz 197 4 19))
 (.cons (st ⟨5,"p",(qz 198 4 5)⟩ (.bin mulFF (v 2 "v" (qz 198 8 9)) (.bin subFF (.flt 0x3ff0000000000000 0 (qz 198 13 16)) (v 1 "s" (qz 198 19 20)) (qz 198 13 20)) (qz 198 8 21)) (qz 198 4 21))
 (.cons (st ⟨6,"q",(qz 199 4 5)⟩ (.bin mulFF (v 2 "v" (qz 199 8 9)) (.bin subFF (.flt 0x3ff0000000000000 0 (qz 199 13 16)) (.bin mulFF (v 1 "s" (qz 199 19 20)) (v 4 "f" (qz 199 23 24)) (qz 199 19 24)) (qz 199 13 24)) (qz 199 8 25)) (qz 199 4 25))
 (.cons (st ⟨7,"t",(qz 200 4 5)⟩ (.bin mulFF (v 2 "v" (qz 200 8 9)) (.bin subFF (.flt 0x3ff0000000000000 0 (qz 200 13 16)) (.bin mulFF (v 1 "s" (qz 200 19 20)) (.bin subFF (.flt 0x3ff0000000000000 0 (qz 200 24 27)) (v 4 "f" (qz 200 30 31)) (qz 200 24 31)) (qz 200 19 32)) (qz 200 13 32)) (qz 200 8 33)) (qz 200 4 33))
 (.cons (st ⟨3,"i",(qz 201 4 5)⟩ (.bin modII (v 3 "i" (qz 201 8 9)) (.int 6 0 (qz 201 12 13)) (qz 201 8 13)) (qz 201 4 13))
 (.cons (.ite (.cmp eqD (SE.x (v 3 "i" (qz 202 7 8))) (SE.x (.int 0 0 (qz 202 12 13))) (qz 202 7 13)) (.cons (.ret (.tup [(v 2 "v" (qz 203 16 17)),(v 7 "t" (qz 203 19 20)),(v 5 "p" (qz 203 22 23))] 0 (qz 203 15 24)) (qz 203 8 24))
 .nil) .nil ⟨202,4,203,24⟩)
 (.cons (.ite (.cmp eqD (SE.x (v 3 "i" (qz 204 7 8))) (SE.x (.int 1 0 (qz 204 12 13))) (qz 204 7 13)) (.cons (.ret (.tup [(v 6 "q" (qz 205 16 17)),(v 2 "v" (qz 205 19 20)),(v 5 "p" (qz 205 22 23))] 0 (qz 205 15 24)) (qz 205 8 24))
 .nil) .nil ⟨204,4,205,24⟩)
 (.cons (.ite (.cmp eqD (SE.x (v 3 "i" (qz 206 7 8))) (SE.x (.int 2 0 (qz 206 12 13))) (qz 206 7 13)) (.cons (.ret (.tup [(v 5 "p" (qz 207 16 17)),(v 2 "v" (qz 207 19 20)),(v 7 "t" (qz 207 22 23))] 0 (qz 207 15 24)) (qz 207 8 24))
 .nil) .nil ⟨206,4,207,24⟩)
 (.cons (.ite (.cmp eqD (SE.x (v 3 "i" (qz 208 7 8))) (SE.x (.int 3 0 (qz 208 12 13))) (qz 208 7 13)) (.cons (.ret (.tup [(v 5 "p" (qz 209 16 17)),(v 6 "q" (qz 209 19 20)),(v 2 "v" (qz 209 22 23))] 0 (qz 209 15 24)) (qz 209 8 24))
 .nil) .nil ⟨208,4,209,24⟩)
 (.cons (.ite (.cmp eqD (SE.x (v 3 "i" (qz 210 7 8))) (SE.x (.int 4 0 (qz 210 12 13))) (qz 210 7 13)) (.cons (.ret (.tup [(v 7 "t" (qz 211 16 17)),(v 5 "p" (qz 211 19 20)),(v 2 "v" (qz 211 22 23))] 0 (qz 211 15 24)) (qz 211 8 24))
 .nil) .nil ⟨210,4,211,24⟩)
 (.cons (.ite (.cmp eqD (SE.x (v 3 "i" (qz 212 7 8))) (SE.x (.int 5 0 (qz 212 12 13))) (qz 212 7 13)) (.cons (.ret (.tup [(v 2 "v" (qz 213 16 17)),(v 5 "p" (qz 213 19 20)),(v 6 "q" (qz 213 22 23))] 0 (qz 213 15 24)) (qz 213 8 24))
 .nil) .nil ⟨212,4,213,24⟩)
 .nil)))))))))))))
noncomputable abbrev D13:Sig:=⟨[("self",.local),("ws",.local),("S",.local),("T",.local),("count",.local),("b",.local),("n",.local),("nt",.local),("ch",.local),("Whitespace",.globalImplicit),("len",.globalImplicit),("tuple",.globalImplicit)],["self","ws"],["S","T","count","b","n","nt","ch"],none⟩
noncomputable def c13:WsC (D13.sc nm):=ws (asg (v 1 "ws" (qz 219 19 21)) "raw" "self" (qz 219 8 12) (qz 219 8 16) (qz 219 8 21))
 (tr [⟨2,"S",(qz 220 8 9)⟩,⟨3,"T",(qz 220 11 12)⟩] 0 0 (qz 220 8 12) (qz 220 15 43) [(cat 13 "Whitespace" "S" " " (qz 220 16 26) (qz 220 16 28)),(cat 13 "Whitespace" "T" "\t" (qz 220 30 40) (qz 220 30 42))] (qz 220 8 43))
 (so ⟨4,"count",(qz 221 8 13)⟩ (.lst [] (qz 221 16 18)) (qz 221 8 18))
 (sa ⟨5,"b",(qz 222 8 9)⟩ ⟨6,"n",(qz 222 12 13)⟩ [⟨7,"nt",(qz 222 16 18)⟩] (.int 0 0 (qz 222 21 22)) (qz 222 8 22))
 (tg1 ⟨8,"ch",(qz 223 12 14)⟩) "self" (qz 223 18 22) (qz 223 18 26)
 (.cons (.ite (.cmp eqD (SE.x (v 8 "ch" (qz 224 15 17))) (SE.x (v 2 "S" (qz 224 21 22))) (qz 224 15 22)) (.cons (st ⟨6,"n",(qz 225 16 17)⟩ (.bin addII (v 6 "n" (qz 225 20 21)) (.int 1 0 (qz 225 24 25)) (qz 225 20 25)) (qz 225 16 25))
 (.cons (st ⟨5,"b",(qz 226 16 17)⟩ (.bin addII (v 5 "b" (qz 226 20 21)) (.int 1 0 (qz 226 24 25)) (qz 226 20 25)) (qz 226 16 25))
 .nil)) (.cons (.ite (.cmp eqD (SE.x (v 8 "ch" (qz 227 17 19))) (SE.x (v 3 "T" (qz 227 23 24))) (qz 227 17 24)) (.cons (st ⟨6,"n",(qz 228 16 17)⟩ (.bin addII (v 6 "n" (qz 228 20 21)) (.int 1 0 (qz 228 24 25)) (qz 228 20 25)) (qz 228 16 25))
 (.cons (st ⟨7,"nt",(qz 229 16 18)⟩ (.bin addII (v 7 "nt" (qz 229 21 23)) (.int 1 0 (qz 229 26 27)) (qz 229 21 27)) (qz 229 16 27))
 (.cons (.ite (.cmp geII (SE.x (v 5 "b" (qz 230 19 20))) (SE.x (biX lenB (SW.x (ow 4 "count" (qz 230 28 33))) (qz 230 24 27) (qz 230 24 34) lenB_sc)) (qz 230 19 34)) (.cons (so ⟨4,"count",(qz 231 20 25)⟩ (.add (ow 4 "count" (qz 231 28 33)) (.bin mulLI (.lst [(.int 0 0 (qz 231 37 38))] (qz 231 36 39)) (.bin addII (.bin subII (v 5 "b" (qz 231 43 44)) (biX lenB (SW.x (ow 4 "count" (qz 231 51 56))) (qz 231 47 50) (qz 231 47 57) lenB_sc) (qz 231 43 57)) (.int 1 0 (qz 231 60 61)) (qz 231 43 61)) (qz 231 36 62)) (qz 231 28 62)) (qz 231 20 62))
 .nil) .nil ⟨230,16,231,62⟩)
 (.cons (si 4 "count" (qz 232 16 21) (qz 232 16 24) (v 5 "b" (qz 232 22 23)) (.bin addII (.idx (ow 4 "count" (qz 232 27 32)) (v 5 "b" (qz 232 33 34)) (qz 232 27 35)) (.int 1 0 (qz 232 38 39)) (qz 232 27 39)) (qz 232 16 39))
 (.cons (st ⟨5,"b",(qz 233 16 17)⟩ (.int 0 0 (qz 233 20 21)) (qz 233 16 21))
 .nil))))) (.cons (.brk (qz 235 16 21))
 .nil) ⟨227,12,235,21⟩)
 .nil) ⟨224,12,235,21⟩)
 .nil)
 ⟨223,8,235,21⟩
 (asg (v 6 "n" (qz 236 17 18)) "n" "self" (qz 236 8 12) (qz 236 8 14) (qz 236 8 18))
 (asg (v 7 "nt" (qz 237 18 20)) "nt" "self" (qz 237 8 12) (qz 237 8 15) (qz 237 8 20))
 (asg (.tup [(tupX (ow 4 "count" (qz 238 27 32)) (qz 238 21 26) (qz 238 21 33)),(v 5 "b" (qz 238 35 36))] 0 (qz 238 20 37)) "norm" "self" (qz 238 8 12) (qz 238 8 17) (qz 238 8 37))
 (asg (.cmp leII (SE.x (biX lenB (SW.x (ow 4 "count" (qz 239 29 34))) (qz 239 25 28) (qz 239 25 35) lenB_sc)) (SE.x (.int 1 0 (qz 239 39 40))) (qz 239 25 40)) "is_simple" "self" (qz 239 8 12) (qz 239 8 22) (qz 239 8 40))
noncomputable abbrev Dm0:Sig:=⟨[("self",.local),("count",.local),("trailing",.local),("max",.globalImplicit),("len",.globalImplicit)],["self"],["count","trailing"],none⟩
noncomputable def cm0:SL (Dm0.sc nm) :=
 (.cons (mv true [⟨1,"count",(qz 242 8 13)⟩,⟨2,"trailing",(qz 242 15 23)⟩] 0 (qz 242 8 23) (attr 3 "norm" (v 0 "self" (qz 242 26 30)) (qz 242 26 35)) (qz 242 8 35))
 (.cons (.ret (bi max2 [(.bin subII (bi lenB [(v 1 "count" (qz 243 23 28))] (qz 243 19 22) (qz 243 19 29)) (.int 1 0 (qz 243 32 33)) (qz 243 19 33)),(v 2 "trailing" (qz 243 35 43))] (qz 243 15 18) (qz 243 15 44)) (qz 243 8 44))
 .nil))
noncomputable abbrev Dm1:Sig:=⟨[("self",.local),("tabsize",.local),("count",.local),("trailing",.local),("il",.local),("i",.local),("range",.globalImplicit),("len",.globalImplicit)],["self","tabsize"],["count","trailing","il","i"],none⟩
noncomputable def cm1:SL (Dm1.sc nm) :=
 (.cons (mv true [⟨2,"count",(qz 246 8 13)⟩,⟨3,"trailing",(qz 246 15 23)⟩] 0 (qz 246 8 23) (attr 3 "norm" (v 0 "self" (qz 246 26 30)) (qz 246 26 35)) (qz 246 8 35))
 (.cons (st ⟨4,"il",(qz 247 8 10)⟩ (.int 0 0 (qz 247 13 14)) (qz 247 8 14))
 (.cons (fr (tg1 ⟨5,"i",(qz 248 12 13)⟩) (rg2 (v 1 "tabsize" (qz 248 23 30)) (bi lenB [(v 2 "count" (qz 248 36 41))] (qz 248 32 35) (qz 248 32 42)) (qz 248 17 22) (qz 248 17 43)) (.cons (st ⟨4,"il",(qz 249 12 14)⟩ (.bin addII (v 4 "il" (qz 249 17 19)) (.bin mulII (.bin fdivII (v 5 "i" (qz 249 22 23)) (v 1 "tabsize" (qz 249 27 34)) (qz 249 22 34)) (.idxT (v 2 "count" (qz 249 37 42)) (v 5 "i" (qz 249 43 44)) (qz 249 37 45)) (qz 249 22 45)) (qz 249 17 45)) (qz 249 12 45))
 .nil) ⟨248,8,249,45⟩)
 (.cons (.ret (.bin addII (v 3 "trailing" (qz 250 15 23)) (.bin mulII (v 1 "tabsize" (qz 250 26 33)) (.bin addII (v 4 "il" (qz 250 37 39)) (attr 2 "nt" (v 0 "self" (qz 250 42 46)) (qz 250 42 49)) (qz 250 37 49)) (qz 250 26 50)) (qz 250 15 50)) (qz 250 8 50))
 .nil))))
noncomputable abbrev Dm2:Sig:=⟨[("self",.local),("other",.local)],["self","other"],[],none⟩
noncomputable def cm2:SL (Dm2.sc nm) :=
 (.cons (.ret (.cmp eqD (SE.x (attr 3 "norm" (v 0 "self" (qz 253 15 19)) (qz 253 15 24))) (SE.x (attr 3 "norm" (v 1 "other" (qz 253 28 33)) (qz 253 28 38))) (qz 253 15 38)) (qz 253 8 38))
 .nil)
noncomputable abbrev Dm3:Sig:=⟨[("self",.local),("other",.local),("n",.local),("a",.local),("ts",.local),("max",.globalImplicit),("range",.globalImplicit)],["self","other"],["n","a","ts"],none⟩
noncomputable def cm3:SL (Dm3.sc nm) :=
 (.cons (st ⟨2,"n",(qz 256 8 9)⟩ (.bin addII (bi max2 [(um 0 "longest_run_of_spaces" (v 0 "self" (qz 256 16 20)) [] (qz 256 16 42) (qz 256 16 44)),(um 0 "longest_run_of_spaces" (v 1 "other" (qz 256 46 51)) [] (qz 256 46 73) (qz 256 46 75))] (qz 256 12 15) (qz 256 12 76)) (.int 1 0 (qz 256 79 80)) (qz 256 12 80)) (qz 256 8 80))
 (.cons (so ⟨3,"a",(qz 257 8 9)⟩ (.lst [] (qz 257 12 14)) (qz 257 8 14))
 (.cons (fr (tg1 ⟨4,"ts",(qz 258 12 14)⟩) (rg2 (.int 1 0 (qz 258 24 25)) (.bin addII (v 2 "n" (qz 258 27 28)) (.int 1 0 (qz 258 31 32)) (qz 258 27 32)) (qz 258 18 23) (qz 258 18 33)) (.cons (.ite (.cmp neD (SE.x (um 1 "indent_level" (v 0 "self" (qz 259 15 19)) [(v 4 "ts" (qz 259 33 35))] (qz 259 15 32) (qz 259 15 36))) (SE.x (um 1 "indent_level" (v 1 "other" (qz 259 40 45)) [(v 4 "ts" (qz 259 59 61))] (qz 259 40 58) (qz 259 40 62))) (qz 259 15 62)) (.cons (ap 3 "a" (qz 260 16 17) (qz 260 16 24) (qz 260 16 77) (qz 260 16 77) (.tup [(v 4 "ts" (qz 260 26 28)),(um 1 "indent_level" (v 0 "self" (qz 260 30 34)) [(v 4 "ts" (qz 260 48 50))] (qz 260 30 47) (qz 260 30 51)),(um 1 "indent_level" (v 1 "other" (qz 260 53 58)) [(v 4 "ts" (qz 260 72 74))] (qz 260 53 71) (qz 260 53 75))] 0 (qz 260 25 76)))
 .nil) .nil ⟨259,12,260,77⟩)
 .nil) ⟨258,8,260,77⟩)
 (.freeze 3 (.cons (.ret (v 3 "a" (qz 261 15 16)) (qz 261 8 16))
 .nil)))))
noncomputable abbrev D14:Sig:=⟨[("number",.local),("bases",.local),("told",.local),("base",.local)],["number","bases"],["told","base"],none⟩
noncomputable def c14s0:SS (D14.sc nm):=(so ⟨2,"told",(qz 270 4 8)⟩ (.lst [] (qz 270 11 13)) (qz 270 4 13))
noncomputable def c14b0:SL (D14.sc nm):=(.cons (ap 2 "told" (qz 272 8 12) (qz 272 8 19) (qz 272 8 34) (qz 272 8 34) (.bin modII (v 0 "number" (qz 272 20 26)) (v 3 "base" (qz 272 29 33)) (qz 272 20 33)))
 (.cons (st ⟨0,"number",(qz 273 8 14)⟩ (.bin fdivII (v 0 "number" (qz 273 17 23)) (v 3 "base" (qz 273 27 31)) (qz 273 17 31)) (qz 273 8 31))
 .nil))
noncomputable def c14s1:SS (D14.sc nm):=(fr (tg1 ⟨3,"base",(qz 271 8 12)⟩) (.lst (v 1 "bases" (qz 271 16 21))) c14b0 ⟨271,4,273,31⟩)
noncomputable def c14s2:SS (D14.sc nm):=(.ret (v 2 "told" (qz 274 11 15)) (qz 274 4 15))
noncomputable def c14:SL (D14.sc nm) :=
 (.cons c14s0
 (.cons c14s1
 (.freeze 2 (.cons c14s2
 .nil))))
noncomputable abbrev D15:Sig:=⟨[("heap",.local),("told",.local),("place",.local),("width",.local),("below",.local),("range",.globalImplicit),("len",.globalImplicit)],["heap"],["told","place","width","below"],none⟩
noncomputable def c15s0:SS (D15.sc nm):=(so ⟨1,"told",(qz 276 4 8)⟩ (.lst [] (qz 276 11 13)) (qz 276 4 13))
noncomputable def c15b0:SL (D15.sc nm):=(.cons (mv false [⟨3,"width",(qz 278 8 13)⟩,⟨4,"below",(qz 278 15 20)⟩] 0 (qz 278 8 20) (.slc (.of (.bin addLL (v 0 "heap" (qz 278 24 28)) (.lst [(.int 0 0 (qz 278 32 33)),(.int 0 0 (qz 278 35 36))] (qz 278 31 37)) (qz 278 24 37))) (some (v 2 "place" (qz 278 39 44))) (some (.bin addII (v 2 "place" (qz 278 45 50)) (.int 2 0 (qz 278 53 54)) (qz 278 45 54))) (qz 278 39 54) (qz 278 23 55)) (qz 278 8 55))
 (.cons (.ite (.cmp gtII (SE.x (v 3 "width" (qz 279 11 16))) (SE.x (v 4 "below" (qz 279 19 24))) (qz 279 11 24)) (.cons (ap 1 "told" (qz 280 12 16) (qz 280 12 23) (qz 280 12 56) (qz 280 12 56) (.tup [(.str ")" 0 (qz 280 25 28)),(v 2 "place" (qz 280 30 35)),(.bin subII (.bin subII (v 3 "width" (qz 280 37 42)) (.int 1 0 (qz 280 45 46)) (qz 280 37 46)) (v 2 "place" (qz 280 49 54)) (qz 280 37 54))] 0 (qz 280 24 55)))
 .nil) .nil ⟨279,8,280,56⟩)
 (.cons (.ite (.or (.cmp eqD (SE.x (v 2 "place" (qz 281 11 16))) (SE.x (.int 0 0 (qz 281 20 21))) (qz 281 11 21)) (.cmp gtII (SE.x (.idx (.of (v 0 "heap" (qz 281 25 29))) (.bin subII (v 2 "place" (qz 281 30 35)) (.int 1 0 (qz 281 38 39)) (qz 281 30 39)) (qz 281 25 40))) (SE.x (v 3 "width" (qz 281 43 48))) (qz 281 25 48)) (qz 281 11 48)) (.cons (ap 1 "told" (qz 282 12 16) (qz 282 12 23) (qz 282 12 52) (qz 282 12 52) (.tup [(.str "(" 0 (qz 282 25 28)),(v 2 "place" (qz 282 30 35)),(.bin subII (v 3 "width" (qz 282 37 42)) (v 2 "place" (qz 282 45 50)) (qz 282 37 50))] 0 (qz 282 24 51)))
 .nil) .nil ⟨281,8,282,52⟩)
 .nil)))
noncomputable def c15s1:SS (D15.sc nm):=(fr (tg1 ⟨2,"place",(qz 277 8 13)⟩) (rg1 (.bin addII (bi lenB [(v 0 "heap" (qz 277 27 31))] (qz 277 23 26) (qz 277 23 32)) (.int 1 0 (qz 277 35 36)) (qz 277 23 36)) (qz 277 17 22) (qz 277 17 37)) c15b0 ⟨277,4,282,52⟩)
noncomputable def c15s2:SS (D15.sc nm):=(.ret (v 1 "told" (qz 283 11 15)) (qz 283 4 15))
noncomputable def c15:SL (D15.sc nm) :=
 (.cons c15s0
 (.cons c15s1
 (.freeze 1 (.cons c15s2
 .nil))))
noncomputable abbrev D16:Sig:=⟨[("heap",.local),("place",.local),("step",.local),("wider",.local)],["heap","place","step"],["wider"],none⟩
noncomputable def c16s0:SS (D16.sc nm):=(so ⟨3,"wider",(qz 285 4 9)⟩ (.add (.of (v 0 "heap" (qz 285 12 16))) (.lst [(.int 0 0 (qz 285 20 21))] (qz 285 19 22)) (qz 285 12 22)) (qz 285 4 22))
noncomputable def c16s1:SS (D16.sc nm):=(ai iaddI 3 "wider" (qz 286 4 9) (qz 286 4 16) (v 1 "place" (qz 286 10 15)) (v 2 "step" (qz 286 20 24)) (qz 286 4 24))
noncomputable abbrev c16z1:Scope:=⟨.function,[(".0",.local),("width",.local)],false,false,[]⟩
noncomputable def c16k0:Cp (D16.sc nm):=(cp c16z1 (.lst (v 3 "wider" (qz 287 31 36))) (tg1 ⟨0,"width",(qz 287 22 27)⟩) (.one (.cmp gtII (SE.x (v 0 "width" (qz 287 40 45))) (SE.x (.int 0 0 (qz 287 48 49))) (qz 287 40 49))) (v 0 "width" (qz 287 12 17)) (qz 287 11 50))
noncomputable def c16s2:SS (D16.sc nm):=(.ret (.comp c16k0) (qz 287 4 50))
noncomputable def c16:SL (D16.sc nm) :=
 (.cons c16s0
 (.cons c16s1
 (.freeze 3 (.cons c16s2
 .nil))))
noncomputable abbrev D17:Sig:=⟨[("heap",.local),("size",.local),("len",.globalImplicit)],["heap","size"],[],none⟩
noncomputable abbrev c17z0:Scope:=⟨.function,[(".0",.local),("width",.local)],false,false,[]⟩
noncomputable def c17k0:Cp (D17.sc nm):=(cp c17z0 (.lst (.bin addLL (v 0 "heap" (qz 289 52 56)) (.bin mulLI (.lst [(.int 0 0 (qz 289 60 61))] (qz 289 59 62)) (.bin subII (v 1 "size" (qz 289 66 70)) (bi lenB [(v 0 "heap" (qz 289 77 81))] (qz 289 73 76) (qz 289 73 82)) (qz 289 66 82)) (qz 289 59 83)) (qz 289 52 83))) (tg1 ⟨0,"width",(qz 289 43 48)⟩) .all (.bin addSS (.bin mulSI (.str " " 0 (qz 289 20 23)) (v 0 "width" (qz 289 26 31)) (qz 289 20 31)) (.str "\t" 0 (qz 289 34 38)) (qz 289 20 38)) (qz 289 19 84))
noncomputable def c17s0:SS (D17.sc nm):=(.ret (.bin addSS (me joinM (SE.x (.str "" 0 (qz 289 11 13))) [(SE.x (.comp c17k0))] (qz 289 11 18) (qz 289 11 85)) (.str "x \t" 0 (qz 289 88 94)) (qz 289 11 94)) (qz 289 4 94))
noncomputable def c17:SL (D17.sc nm) :=
 (.cons c17s0
 .nil)
noncomputable abbrev D18:Sig:=⟨[("row",.local),("good",.local),("here",.local),("ahead",.cell),("held",.local),("range",.globalImplicit),("len",.globalImplicit)],["row"],["good","here","ahead","held"],none⟩
noncomputable def c18s0:SS (D18.sc nm):=(st ⟨1,"good",(qz 291 4 8)⟩ (.nn 0 (qz 291 11 15)) (qz 291 4 15))
noncomputable abbrev c18z0:Scope:=⟨.function,[(".0",.local),("sign",.local),("place",.local)],false,false,[]⟩
noncomputable def c18k0:Cp (D18.sc nm):=(cp c18z0 (.lst (.slc (.of (v 0 "row" (qz 293 41 44))) none (some (v 2 "here" (qz 293 46 50))) (qz 293 45 50) (qz 293 41 51))) (tgn [⟨0,"sign",(qz 293 26 30)⟩,⟨1,"place",(qz 293 32 37)⟩] 0 (qz 293 26 37)) .all (v 0 "sign" (qz 293 17 21)) (qz 293 16 52))
noncomputable abbrev c18z1:Scope:=⟨.function,[(".0",.local),("one",.local),("ahead",.free)],false,false,[]⟩
noncomputable def c18k1:Cp (D18.sc nm):=(cp c18z1 (rg1 (v 2 "here" (qz 294 37 41)) (qz 294 31 36) (qz 294 31 42)) (tg1 ⟨0,"one",(qz 294 24 27)⟩) (.one (.andL [(.cmp eqD (SE.x (.idx (.of (v 4 "ahead" (qz 294 46 51))) (v 0 "one" (qz 294 52 55)) (qz 294 46 56))) (SE.x (.str "(" 0 (qz 294 60 63))) (qz 294 46 63)),(.cmp gtII (SE.x (me (cntK keyS) (SE.x (.slc (.of (v 4 "ahead" (qz 294 68 73))) (some (v 0 "one" (qz 294 74 77))) none (qz 294 74 78) (qz 294 68 79))) [(SE.x (.str "(" 0 (qz 294 86 89)))] (qz 294 68 85) (qz 294 68 90))) (SE.x (me (cntK keyS) (SE.x (.slc (.of (v 4 "ahead" (qz 294 93 98))) (some (v 0 "one" (qz 294 99 102))) none (qz 294 99 103) (qz 294 93 104))) [(SE.x (.str ")" 0 (qz 294 111 114)))] (qz 294 93 110) (qz 294 93 115))) (qz 294 68 115))] (qz 294 46 115))) (v 0 "one" (qz 294 16 19)) (qz 294 15 116))
noncomputable def c18b0:SL (D18.sc nm):=(.cons (stc ⟨3,"ahead",(qz 293 8 13)⟩ c18k0 (qz 293 8 52))
 (.cons (scp false ⟨4,"held",(qz 294 8 12)⟩ c18k1 (qz 294 8 116))
 (.cons (.ite (.andL [(.cmp eqD (SE.x (.idxT (.idx (.of (v 0 "row" (qz 295 11 14))) (v 2 "here" (qz 295 15 19)) (qz 295 11 20)) (.int 0 0 (qz 295 21 22)) (qz 295 11 23))) (SE.x (.str ")" 0 (qz 295 27 30))) (qz 295 11 30)),(.cmp eqD (SE.x (v 4 "held" (qz 295 35 39))) (SE.x (.lst [] (qz 295 43 45))) (qz 295 35 45))] (qz 295 11 45)) (.cons (st ⟨1,"good",(qz 296 12 16)⟩ (.idxT (.idx (.of (v 0 "row" (qz 296 19 22))) (v 2 "here" (qz 296 23 27)) (qz 296 19 28)) (.int 1 0 (qz 296 29 30)) (qz 296 19 31)) (qz 296 12 31))
 .nil) .nil ⟨295,8,296,31⟩)
 .nil)))
noncomputable def c18s1:SS (D18.sc nm):=(fr (tg1 ⟨2,"here",(qz 292 8 12)⟩) (rg1 (bi lenB [(v 0 "row" (qz 292 26 29))] (qz 292 22 25) (qz 292 22 30)) (qz 292 16 21) (qz 292 16 31)) c18b0 ⟨292,4,296,31⟩)
noncomputable def c18s2:SS (D18.sc nm):=(.ret (v 1 "good" (qz 297 11 15)) (qz 297 4 15))
noncomputable def c18:SL (D18.sc nm) :=
 (.cons c18s0
 (.cons c18s1
 (.cons c18s2
 .nil)))
noncomputable abbrev D19:Sig:=⟨[("row",.cell),("piece",.local),("faults",.local),("taking",.local),("closing",.local),("more",.cell),("text",.cell),("lines",.local),("kept",.local),("fell",.local),("normal",.local),("depths",.local),("told",.local),("len",.globalImplicit),("range",.globalImplicit),("max",.globalImplicit),("_pre_parse_validation",.globalImplicit),("_law_good",.globalImplicit)],["row","piece","faults","taking"],["closing","more","text","lines","kept","fell","normal","depths","told"],none⟩
noncomputable abbrev c19z0:Scope:=⟨.function,[(".0",.local),("sign",.local),("place",.local)],false,false,[]⟩
noncomputable def c19k0:Cp (D19.sc nm):=(cp c19z0 (.lst (v 0 "row" (qz 299 43 46))) (tgn [⟨0,"sign",(qz 299 28 32)⟩,⟨1,"place",(qz 299 34 39)⟩] 0 (qz 299 28 39)) (.one (.cmp eqD (SE.x (v 0 "sign" (qz 299 50 54))) (SE.x (.str ")" 0 (qz 299 58 61))) (qz 299 50 61))) (v 0 "sign" (qz 299 19 23)) (qz 299 18 62))
noncomputable def c19s0:SS (D19.sc nm):=(st ⟨4,"closing",(qz 299 4 11)⟩ (bi lenB [(.comp c19k0)] (qz 299 14 17) (qz 299 14 63)) (qz 299 4 63))
noncomputable def c19s1:SS (D19.sc nm):=(st ⟨5,"more",(qz 300 4 8)⟩ (.bin subII (bi lenB [(v 0 "row" (qz 300 15 18))] (qz 300 11 14) (qz 300 11 19)) (.bin mulII (.int 2 0 (qz 300 22 23)) (v 4 "closing" (qz 300 26 33)) (qz 300 22 33)) (qz 300 11 33)) (qz 300 4 33))
noncomputable abbrev c19z1:Scope:=⟨.function,[(".0",.local),("sign",.local),("place",.local)],false,false,[]⟩
noncomputable def c19k1:Cp (D19.sc nm):=(cp c19z1 (.lst (v 0 "row" (qz 301 52 55))) (tgn [⟨0,"sign",(qz 301 37 41)⟩,⟨1,"place",(qz 301 43 48)⟩] 0 (qz 301 37 48)) .all (v 0 "sign" (qz 301 28 32)) (qz 301 27 56))
noncomputable def c19s2:SS (D19.sc nm):=(st ⟨6,"text",(qz 301 4 8)⟩ (.bin addSS (v 1 "piece" (qz 301 11 16)) (me joinM (SE.x (.str "" 0 (qz 301 19 21))) [(SE.x (.comp c19k1))] (qz 301 19 26) (qz 301 19 57)) (qz 301 11 57)) (qz 301 4 57))
noncomputable abbrev c19z2:Scope:=⟨.function,[(".0",.local),("ahead",.local),("more",.free),("text",.free)],false,false,[]⟩
noncomputable def c19k2:Cp (D19.sc nm):=(cp c19z2 (rg2 (bi max2 [(.int 0 0 (qz 302 78 79)),(.una negI (v 5 "more" (qz 302 82 86)) (qz 302 81 86))] (qz 302 74 77) (qz 302 74 87)) (.bin addII (v 4 "closing" (qz 302 89 96)) (.int 1 0 (qz 302 99 100)) (qz 302 89 100)) (qz 302 68 73) (qz 302 68 101)) (tg1 ⟨0,"ahead",(qz 302 59 64)⟩) .all (.bin addSS (.bin addSS (.bin mulSI (.str "(" 0 (qz 302 13 16)) (v 0 "ahead" (qz 302 19 24)) (qz 302 13 24)) (v 7 "text" (qz 302 27 31)) (qz 302 13 31)) (.bin mulSI (.str ")" 0 (qz 302 34 37)) (.bin addII (v 0 "ahead" (qz 302 41 46)) (v 6 "more" (qz 302 49 53)) (qz 302 41 53)) (qz 302 34 54)) (qz 302 13 54)) (qz 302 12 102))
noncomputable def c19s3:SS (D19.sc nm):=(scp false ⟨7,"lines",(qz 302 4 9)⟩ c19k2 (qz 302 4 102))
noncomputable def c19s4:SS (D19.sc nm):=(st ⟨8,"kept",(qz 303 4 8)⟩ (call 2 "_pre_parse_validation" [(v 7 "lines" (qz 303 33 38))] (qz 303 11 32) (qz 303 11 39)) (qz 303 4 39))
noncomputable abbrev c19z3:Scope:=⟨.function,[(".0",.local),("one",.local)],false,false,[]⟩
noncomputable def c19k3:Cp (D19.sc nm):=(cp c19z3 (.lst (v 8 "kept" (qz 304 31 35))) (tg1 ⟨0,"one",(qz 304 24 27)⟩) (.one (.cmp eqD (SE.x (v 0 "one" (qz 304 39 42))) (SE.x (.str "('', '')" 0 (qz 304 46 56))) (qz 304 39 56))) (v 0 "one" (qz 304 16 19)) (qz 304 15 57))
noncomputable def c19s5:SS (D19.sc nm):=(st ⟨9,"fell",(qz 304 4 8)⟩ (bi lenB [(.comp c19k3)] (qz 304 11 14) (qz 304 11 58)) (qz 304 4 58))
noncomputable def c19s6:SS (D19.sc nm):=(st ⟨10,"normal",(qz 305 4 10)⟩ (.bin addII (bi max2 [(.int 0 0 (qz 305 17 18)),(.una negI (v 5 "more" (qz 305 21 25)) (qz 305 20 25))] (qz 305 13 16) (qz 305 13 26)) (v 9 "fell" (qz 305 29 33)) (qz 305 13 33)) (qz 305 4 33))
noncomputable abbrev c19z4:Scope:=⟨.function,[(".0",.local),("here",.local),("len",.globalImplicit),("row",.free)],false,false,[]⟩
noncomputable abbrev c19z5:Scope:=⟨.function,[(".0",.local),("sign",.local),("place",.local)],false,false,[]⟩
noncomputable def c19k4:Cp (compSC (D19.sc nm) c19z4):=(cp c19z5 (.lst (.slc (.of (v 1 "row" (qz 306 40 43))) none (some (v 0 "here" (qz 306 45 49))) (qz 306 44 49) (qz 306 40 50))) (tgn [⟨0,"sign",(qz 306 25 29)⟩,⟨1,"place",(qz 306 31 36)⟩] 0 (qz 306 25 36)) (.one (.cmp eqD (SE.x (v 0 "sign" (qz 306 54 58))) (SE.x (.str ")" 0 (qz 306 62 65))) (qz 306 54 65))) (.int 1 0 (qz 306 19 20)) (qz 306 18 66))
noncomputable def c19k5:Cp (D19.sc nm):=(cp c19z4 (rg1 (.bin addII (bi lenB [(v 0 "row" (qz 306 101 104))] (qz 306 97 100) (qz 306 97 105)) (.int 1 0 (qz 306 108 109)) (qz 306 97 109)) (qz 306 91 96) (qz 306 91 110)) (tg1 ⟨0,"here",(qz 306 83 87)⟩) .all (.bin subII (.bin mulII (bi lenB [(.comp c19k4)] (qz 306 14 17) (qz 306 14 67)) (.int 2 0 (qz 306 70 71)) (qz 306 14 71)) (v 0 "here" (qz 306 74 78)) (qz 306 14 78)) (qz 306 13 111))
noncomputable def c19s7:SS (D19.sc nm):=(scp false ⟨11,"depths",(qz 306 4 10)⟩ c19k5 (qz 306 4 111))
noncomputable def c19s8:SS (D19.sc nm):=(st ⟨12,"told",(qz 307 4 8)⟩ (.ite (.andL [(.cmp (inK keyI) (SE.x (v 10 "normal" (qz 307 47 53))) (SE.x (v 11 "depths" (qz 307 57 63))) (qz 307 47 63)),(.cmp gtII (SE.x (v 10 "normal" (qz 307 68 74))) (SE.x (.int 0 0 (qz 307 77 78))) (qz 307 68 78))] (qz 307 47 78)) (.idxT (.idx (.of (v 0 "row" (qz 307 11 14))) (.bin subII (me (idxK keyI) (SE.x (v 11 "depths" (qz 307 15 21))) [(SE.x (v 10 "normal" (qz 307 28 34)))] (qz 307 15 27) (qz 307 15 35)) (.int 1 0 (qz 307 38 39)) (qz 307 15 39)) (qz 307 11 40)) (.int 1 0 (qz 307 41 42)) (qz 307 11 43)) (.nn 0 (qz 307 84 88)) (qz 307 11 88)) (qz 307 4 88))
noncomputable def c19s9:SS (D19.sc nm):=(.ite (.orL [(.cmp neD (SE.x (v 8 "kept" (qz 308 7 11))) (SE.x (.bin addLL (.bin mulLI (.lst [(.str "('', '')" 0 (qz 308 16 26))] (qz 308 15 27)) (v 9 "fell" (qz 308 30 34)) (qz 308 15 34)) (.slc (.of (v 7 "lines" (qz 308 37 42))) (some (v 9 "fell" (qz 308 43 47))) none (qz 308 43 48) (qz 308 37 49)) (qz 308 15 49))) (qz 308 7 49)),(.cmp (notInK keyI) (SE.x (v 10 "normal" (qz 308 53 59))) (SE.x (v 11 "depths" (qz 308 67 73))) (qz 308 53 73)),(.andL [(tst (SE.x (v 3 "taking" (qz 308 78 84)))),(.cmp neN (SE.x (v 12 "told" (qz 308 89 93))) (SE.x (call 18 "_law_good" [(v 0 "row" (qz 308 107 110))] (qz 308 97 106) (qz 308 97 111))) (qz 308 89 111))] (qz 308 78 111))] (qz 308 7 112)) (.cut [.Expr (.Call (.Attribute (.Name "faults" (qz 309 8 14)) "append" (qz 309 8 21)) [.Name "row" (qz 309 22 25)] [] (qz 309 8 26)) (qz 309 8 26)]) .nil ⟨308,4,309,26⟩)
noncomputable def c19s10:SS (D19.sc nm):=(.ret (v 12 "told" (qz 310 11 15)) (qz 310 4 15))
noncomputable def c19:SL (D19.sc nm) :=
 (.cons c19s0
 (.cons c19s1
 (.cons c19s2
 (.cons c19s3
 (.cons c19s4
 (.cons c19s5
 (.cons c19s6
 (.cons c19s7
 (.cons c19s8
 (.cons c19s9
 (.cons c19s10
 .nil)))))))))))
noncomputable abbrev D20:Sig:=⟨[("heap",.local),("picks",.local),("shade",.cell),("mirror",.cell),("take",.cell),("build",.local),("stages",.local),("hues",.local),("pick",.local),("marks",.cell),("hue",.cell),("place",.local),("rows",.local),("goods",.local),("image",.local),("_law_marks",.globalImplicit),("range",.globalImplicit),("enumerate",.globalImplicit),("len",.globalImplicit),("_law_changed",.globalImplicit)],["heap","picks","shade","mirror","take","build"],["stages","hues","pick","marks","hue","place","rows","goods","image"],none⟩
noncomputable def c20s0:SS (D20.sc nm):=(o2 ⟨6,"stages",(qz 312 4 10)⟩ ⟨7,"hues",(qz 312 12 16)⟩ (mk (.lst [(v 0 "heap" (qz 312 21 25))] (qz 312 20 26))) (mk (.lst [] (qz 312 28 30))) 0 0 (qz 312 4 16) (qz 312 19 31) (qz 312 4 31))
noncomputable def c20x0:SS (D20.sc nm):=(st ⟨9,"marks",(qz 314 8 13)⟩ (call 15 "_law_marks" [(.idx (ow 6 "stages" (qz 314 27 33)) (.una negI (.int 1 0 (qz 314 35 36)) (qz 314 34 36)) (qz 314 27 37))] (qz 314 16 26) (qz 314 16 38)) (qz 314 8 38))
noncomputable abbrev c20z0:Scope:=⟨.function,[(".0",.local),("hue",.cell),("marks",.free),("shade",.free)],false,false,[]⟩
noncomputable abbrev c20z1:Scope:=⟨.function,[(".0",.local),("sign",.local),("place",.local),("way",.local),("hue",.free),("shade",.free)],false,false,[]⟩
noncomputable def c20k0:Cp (compSC (D20.sc nm) c20z0):=(cp c20z1 (.lst (v 10 "marks" (qz 315 55 60))) (tgn [⟨0,"sign",(qz 315 35 39)⟩,⟨1,"place",(qz 315 41 46)⟩,⟨2,"way",(qz 315 48 51)⟩] 0 (qz 315 35 51)) (.one (.cmp eqD (SE.x (dg (.of (v 6 "shade" (qz 315 64 69))) (v 2 "way" (qz 315 70 73)) (qz 315 64 74))) (SE.x (v 3 "hue" (qz 315 78 81))) (qz 315 64 81))) (.tup [(v 0 "sign" (qz 315 18 22)),(v 1 "place" (qz 315 24 29))] 0 (qz 315 17 30)) (qz 315 16 82))
noncomputable def c20k1:Cp (D20.sc nm):=(cp c20z0 (rg1 (.int 4 0 (qz 315 100 101)) (qz 315 94 99) (qz 315 94 102)) (tg1 ⟨0,"hue",(qz 315 87 90)⟩) .all (.comp c20k0) (qz 315 15 103))
noncomputable def c20x1:SS (D20.sc nm):=(scp false ⟨12,"rows",(qz 315 8 12)⟩ c20k1 (qz 315 8 103))
noncomputable abbrev c20z2:Scope:=⟨.function,[(".0",.local),("hue",.local),("row",.local),("take",.free)],false,false,[]⟩
noncomputable abbrev c20z3:Scope:=⟨.function,[(".0",.local),("sign",.local),("place",.local)],false,false,[]⟩
noncomputable def c20k2:Cp (compSC (D20.sc nm) c20z2):=(cp c20z3 (.lst (v 1 "row" (qz 316 101 104))) (tgn [⟨0,"sign",(qz 316 86 90)⟩,⟨1,"place",(qz 316 92 97)⟩] 0 (qz 316 86 97)) .all (v 0 "sign" (qz 316 77 81)) (qz 316 76 105))
noncomputable def c20k3:Cp (D20.sc nm):=(cp c20z2 (enm (v 12 "rows" (qz 316 60 64)) (qz 316 50 59) (qz 316 50 65)) (tgn [⟨0,"hue",(qz 316 38 41)⟩,⟨1,"row",(qz 316 43 46)⟩] 0 (qz 316 38 46)) (.one (.cmp (inK keyS) (SE.x (.str ")" 0 (qz 316 69 72))) (SE.x (.comp c20k2)) (qz 316 69 105))) (.tup [(v 0 "hue" (qz 316 18 21)),(cf 6 "take" [(v 1 "row" (qz 316 28 31))] (qz 316 23 27) (qz 316 23 32))] 0 (qz 316 17 33)) (qz 316 16 106))
noncomputable def c20x2:SS (D20.sc nm):=(scp false ⟨13,"goods",(qz 316 8 13)⟩ c20k3 (qz 316 8 106))
noncomputable abbrev c20z4:Scope:=⟨.function,[(".0",.local),("one",.local)],false,false,[]⟩
noncomputable def c20k4:Cp (D20.sc nm):=(cp c20z4 (.lst (v 13 "goods" (qz 317 32 37))) (tg1 ⟨0,"one",(qz 317 25 28)⟩) (.one (.cmp isNotN (SE.x (.idxT (v 0 "one" (qz 317 41 44)) (.int 1 0 (qz 317 45 46)) (qz 317 41 47))) (SE.x (.nn 0 (qz 317 55 59))) (qz 317 41 59))) (v 0 "one" (qz 317 17 20)) (qz 317 16 60))
noncomputable def c20x3:SS (D20.sc nm):=(scp false ⟨13,"goods",(qz 317 8 13)⟩ c20k4 (qz 317 8 60))
noncomputable def c20x4:SS (D20.sc nm):=(.ite (.cmp eqD (SE.x (v 13 "goods" (qz 318 11 16))) (SE.x (.lst [] (qz 318 20 22))) (qz 318 11 22)) (.cons (.ret (.nn 0 (qz 319 19 23)) (qz 319 12 23))
 .nil) .nil ⟨318,8,319,23⟩)
noncomputable def c20x5:SS (D20.sc nm):=(ap 7 "hues" (qz 320 8 12) (qz 320 8 19) (qz 320 8 48) (qz 320 8 48) (.idxT (.idx (.of (v 13 "goods" (qz 320 20 25))) (.bin modII (v 8 "pick" (qz 320 26 30)) (bi lenB [(v 13 "goods" (qz 320 37 42))] (qz 320 33 36) (qz 320 33 43)) (qz 320 26 43)) (qz 320 20 44)) (.int 0 0 (qz 320 45 46)) (qz 320 20 47)))
noncomputable def c20x6:SS (D20.sc nm):=(ap 6 "stages" (qz 321 8 14) (qz 321 8 21) (qz 321 8 80) (qz 321 8 80) (call 16 "_law_changed" [(.idx (ow 6 "stages" (qz 321 35 41)) (.una negI (.int 1 0 (qz 321 43 44)) (qz 321 42 44)) (qz 321 35 45)),(.idxT (.idx (.of (v 13 "goods" (qz 321 47 52))) (.bin modII (v 8 "pick" (qz 321 53 57)) (bi lenB [(v 13 "goods" (qz 321 64 69))] (qz 321 60 63) (qz 321 60 70)) (qz 321 53 70)) (qz 321 47 71)) (.int 1 0 (qz 321 72 73)) (qz 321 47 74)),(.una negI (.int 1 0 (qz 321 77 78)) (qz 321 76 78))] (qz 321 22 34) (qz 321 22 79)))
noncomputable def c20b0:SL (D20.sc nm):=(.cons c20x0
 (.cons c20x1
 (.cons c20x2
 (.cons c20x3
 (.cons c20x4
 (.cons c20x5
 (.cons c20x6
 .nil)))))))
noncomputable def c20s1:SS (D20.sc nm):=(fr (tg1 ⟨8,"pick",(qz 313 8 12)⟩) (.lst (v 1 "picks" (qz 313 16 21))) c20b0 ⟨313,4,321,80⟩)
noncomputable def c20s2:SS (D20.sc nm):=(st ⟨14,"image",(qz 322 4 9)⟩ (.lst [] (qz 322 12 14)) (qz 322 4 14))
noncomputable def c20x7:SS (D20.sc nm):=(st ⟨9,"marks",(qz 324 8 13)⟩ (.rev (.of (call 15 "_law_marks" [(v 14 "image" (qz 324 27 32))] (qz 324 16 26) (qz 324 16 33))) 0 (qz 324 37 38) (qz 324 36 38) (qz 324 34 38) (qz 324 16 39)) (qz 324 8 39))
noncomputable abbrev c20z5:Scope:=⟨.function,[(".0",.local),("sign",.local),("place",.local),("way",.local),("hue",.free),("mirror",.free)],false,false,[]⟩
noncomputable def c20k5:Cp (D20.sc nm):=(cp c20z5 (.lst (v 9 "marks" (qz 325 84 89))) (tgn [⟨0,"sign",(qz 325 64 68)⟩,⟨1,"place",(qz 325 70 75)⟩,⟨2,"way",(qz 325 77 80)⟩] 0 (qz 325 64 80)) (.one (.cmp eqD (SE.x (dg (.of (v 6 "mirror" (qz 325 93 99))) (v 2 "way" (qz 325 100 103)) (qz 325 93 104))) (SE.x (v 13 "hue" (qz 325 108 111))) (qz 325 93 111))) (.tup [(.ite (.cmp eqD (SE.x (v 0 "sign" (qz 325 31 35))) (SE.x (.str "(" 0 (qz 325 39 42))) (qz 325 31 42)) (.str ")" 0 (qz 325 24 27)) (.str "(" 0 (qz 325 48 51)) (qz 325 24 51)),(v 1 "place" (qz 325 53 58))] 0 (qz 325 23 59)) (qz 325 22 112))
noncomputable def c20x8:SS (D20.sc nm):=(st ⟨11,"place",(qz 325 8 13)⟩ (cf 5 "build" [(.comp c20k5)] (qz 325 16 21) (qz 325 16 113)) (qz 325 8 113))
noncomputable def c20x9:SS (D20.sc nm):=(.ite (.cmp isN (SE.x (v 11 "place" (qz 326 11 16))) (SE.x (.nn 0 (qz 326 20 24))) (qz 326 11 24)) (.cons (.ret (.nn 0 (qz 327 19 23)) (qz 327 12 23))
 .nil) .nil ⟨326,8,327,23⟩)
noncomputable def c20x10:SS (D20.sc nm):=(st ⟨14,"image",(qz 328 8 13)⟩ (call 16 "_law_changed" [(v 14 "image" (qz 328 29 34)),(v 11 "place" (qz 328 36 41)),(.int 1 0 (qz 328 43 44))] (qz 328 16 28) (qz 328 16 45)) (qz 328 8 45))
noncomputable def c20b1:SL (D20.sc nm):=(.cons c20x7
 (.cons c20x8
 (.cons c20x9
 (.cons c20x10
 .nil))))
noncomputable def c20s3:SS (D20.sc nm):=(fr (tg1 ⟨10,"hue",(qz 323 8 11)⟩) (.lst (.rev (ow 7 "hues" (qz 323 15 19)) 0 (qz 323 23 24) (qz 323 22 24) (qz 323 20 24) (qz 323 15 25))) c20b1 ⟨323,4,328,45⟩)
noncomputable def c20s4:SS (D20.sc nm):=(.ret (.tup [(v 6 "stages" (qz 329 12 18)),(v 14 "image" (qz 329 20 25))] 0 (qz 329 11 26)) (qz 329 4 26))
noncomputable def c20:SL (D20.sc nm) :=
 (.cons c20s0
 (.cons c20s1
 (.cons c20s2
 (.cons c20s3
 (.freeze 6 (.cons c20s4
 .nil))))))
noncomputable abbrev D21:Sig:=⟨(jN [("script",.local),("sums",.local),("place",.local),("number",.local),("many",.cell),("size",.cell),("light",.local),("pure",.local),("dress",.local),("picks",.local),("turns",.local),("others",.local),("heap",.cell),("pick",.local),("way",.local),("grown",.local),("shade",.local),("mirror",.local),("red",.local),("green",.local),("blue",.local),("hue",.local),("share",.local),("value",.local),("across",.local),("shine",.local),("strong",.local),("told",.local),("found",.local),("stages",.local)] [("image",.local),("leads",.local),("turn",.local),("before",.cell),("wide",.cell),("columns",.local),("due",.local),("lengths",.cell),("counts",.local),("same",.local),("again",.local),("faults",.cell),("piece",.cell),("enumerate",.globalImplicit),("_law_figures",.globalImplicit),("_law_marks",.globalImplicit),("len",.globalImplicit),("range",.globalImplicit),("hls_to_rgb",.globalImplicit),("rgb_to_hsv",.globalImplicit),("hsv_to_rgb",.globalImplicit),("rgb_to_hls",.globalImplicit),("int",.globalImplicit),("int_divmod",.globalImplicit),("_law_image",.globalImplicit),("zip",.globalImplicit),("tuple",.globalImplicit),("Whitespace",.globalImplicit),("_law_lead",.globalImplicit),("_law_good",.globalImplicit)]),["script"],(jS ["sums","place","number","many","size","light","pure","dress","picks","turns","others","heap","pick","way","grown","shade","mirror","red","green","blue","hue","share","value","across","shine","strong","told","found","stages","image"] ["leads","turn","before","wide","columns","due","lengths","counts","same","again","faults","piece"]),some (235,"law.<locals>.")⟩
noncomputable def c21s0:SS (D21.sc nm):=(so ⟨1,"sums",(qz 331 4 8)⟩ (.lst [(.int 535 0 (qz 331 12 15)),(.int 1296 0 (qz 331 17 21)),(.int 199 0 (qz 331 23 26)),(.int 48 0 (qz 331 28 30))] (qz 331 11 31)) (qz 331 4 31))
noncomputable def c21x0:SS (D21.sc nm):=(ai iaddI 1 "sums" (qz 333 8 12) (qz 333 8 23) (.bin modII (v 2 "place" (qz 333 13 18)) (.int 4 0 (qz 333 21 22)) (qz 333 13 22)) (.bin modII (v 3 "number" (qz 333 27 33)) (.bin powII (.int 10 0 (qz 333 36 38)) (.int 6 0 (qz 333 42 43)) (qz 333 36 43)) (qz 333 27 43)) (qz 333 8 43))
noncomputable def c21b0:SL (D21.sc nm):=(.cons c21x0
 .nil)
noncomputable def c21s1:SS (D21.sc nm):=(fr (tgn [⟨2,"place",(qz 332 8 13)⟩,⟨3,"number",(qz 332 15 21)⟩] 0 (qz 332 8 21)) (enm (.slc (.of (v 0 "script" (qz 332 35 41))) none (some (.int 60 0 (qz 332 43 45))) (qz 332 42 45) (qz 332 35 46)) (qz 332 25 34) (qz 332 25 47)) c21b0 ⟨332,4,333,43⟩)
noncomputable def c21s2:SS (D21.sc nm):=(mv false [⟨4,"many",(qz 334 4 8)⟩,⟨5,"size",(qz 334 10 14)⟩,⟨6,"light",(qz 334 16 21)⟩,⟨7,"pure",(qz 334 23 27)⟩,⟨8,"dress",(qz 334 29 34)⟩] 0 (qz 334 4 34) (call 14 "_law_figures" [(.idx (ow 1 "sums" (qz 334 50 54)) (.int 0 0 (qz 334 55 56)) (qz 334 50 57)),(.lst [(.int 3 0 (qz 334 60 61)),(.int 4 0 (qz 334 63 64)),(.int 7 0 (qz 334 66 67)),(.int 4 0 (qz 334 69 70)),(.int 6 0 (qz 334 72 73))] (qz 334 59 74))] (qz 334 37 49) (qz 334 37 75)) (qz 334 4 75))
noncomputable def c21s3:SS (D21.sc nm):=(tu [⟨4,"many",(qz 335 4 8)⟩,⟨5,"size",(qz 335 10 14)⟩] 0 0 (qz 335 4 14) (qz 335 17 37) [(.bin addII (v 4 "many" (qz 335 18 22)) (.int 2 0 (qz 335 25 26)) (qz 335 18 26)),(.bin addII (v 5 "size" (qz 335 28 32)) (.int 3 0 (qz 335 35 36)) (qz 335 28 36))] (qz 335 4 37))
noncomputable abbrev c21z0:Scope:=⟨.function,[(".0",.local),("one",.local),("_law_figures",.globalImplicit),("size",.free)],false,false,[]⟩
noncomputable def c21k0:Cp (D21.sc nm):=(cp c21z0 (.lst (.slc (ow 1 "sums" (qz 336 69 73)) (some (.int 1 0 (qz 336 74 75))) none (qz 336 74 76) (qz 336 69 77))) (tg1 ⟨0,"one",(qz 336 62 65)⟩) .all (call 14 "_law_figures" [(v 0 "one" (qz 336 41 44)),(.bin mulLI (.lst [(.int 6 0 (qz 336 47 48))] (qz 336 46 49)) (v 6 "size" (qz 336 52 56)) (qz 336 46 56))] (qz 336 28 40) (qz 336 28 57)) (qz 336 27 78))
noncomputable def c21s4:SS (D21.sc nm):=(mv false [⟨9,"picks",(qz 336 4 9)⟩,⟨10,"turns",(qz 336 11 16)⟩,⟨11,"others",(qz 336 18 24)⟩] 0 (qz 336 4 24) (.comp c21k0) (qz 336 4 78))
noncomputable def c21s5:SS (D21.sc nm):=(st ⟨12,"heap",(qz 337 4 8)⟩ (.lst [] (qz 337 11 13)) (qz 337 4 13))
noncomputable abbrev c21z1:Scope:=⟨.function,[(".0",.local),("sign",.local),("place",.local),("way",.local),("_law_changed",.globalImplicit),("heap",.free)],false,false,[]⟩
noncomputable def c21k1:Cp (D21.sc nm):=(cp c21z1 (.lst (call 15 "_law_marks" [(v 12 "heap" (qz 339 81 85))] (qz 339 70 80) (qz 339 70 86))) (tgn [⟨0,"sign",(qz 339 50 54)⟩,⟨1,"place",(qz 339 56 61)⟩,⟨2,"way",(qz 339 63 66)⟩] 0 (qz 339 50 66)) (.one (.cmp eqD (SE.x (v 0 "sign" (qz 339 90 94))) (SE.x (.str "(" 0 (qz 339 98 101))) (qz 339 90 101))) (call 16 "_law_changed" [(v 15 "heap" (qz 339 30 34)),(v 1 "place" (qz 339 36 41)),(.int 1 0 (qz 339 43 44))] (qz 339 17 29) (qz 339 17 45)) (qz 339 16 102))
noncomputable def c21x1:SS (D21.sc nm):=(scp false ⟨15,"grown",(qz 339 8 13)⟩ c21k1 (qz 339 8 102))
noncomputable abbrev c21z2:Scope:=⟨.function,[(".0",.local),("new",.cell),("max",.globalImplicit),("many",.free)],false,false,[]⟩
noncomputable abbrev c21z3:Scope:=⟨.function,[(".0",.local),("width",.local),("new",.free)],false,false,[]⟩
noncomputable def c21k2:Cp (compSC (D21.sc nm) c21z2):=(cp c21z3 (.lst (v 0 "new" (qz 340 76 79))) (tg1 ⟨0,"width",(qz 340 67 72)⟩) .all (me (cntK keyI) (SE.x (v 1 "new" (qz 340 46 49))) [(SE.x (v 0 "width" (qz 340 56 61)))] (qz 340 46 55) (qz 340 46 62)) (qz 340 45 80))
noncomputable def c21k3:Cp (D21.sc nm):=(cp c21z2 (.lst (v 15 "grown" (qz 340 32 37))) (tg1 ⟨0,"new",(qz 340 25 28)⟩) (.one (.cmp ltII (SE.x (bi maxL [(.comp c21k2)] (qz 340 41 44) (qz 340 41 81))) (SE.x (v 5 "many" (qz 340 84 88))) (qz 340 41 88))) (v 0 "new" (qz 340 17 20)) (qz 340 16 89))
noncomputable def c21x2:SS (D21.sc nm):=(scp false ⟨15,"grown",(qz 340 8 13)⟩ c21k3 (qz 340 8 89))
noncomputable def c21x3:SS (D21.sc nm):=(st ⟨12,"heap",(qz 341 8 12)⟩ (.idx (.of (v 15 "grown" (qz 341 15 20))) (.bin modII (v 13 "pick" (qz 341 21 25)) (bi lenB [(v 15 "grown" (qz 341 32 37))] (qz 341 28 31) (qz 341 28 38)) (qz 341 21 38)) (qz 341 15 39)) (qz 341 8 39))
noncomputable def c21b1:SL (D21.sc nm):=(.cons c21x1
 (.cons c21x2
 (.cons c21x3
 .nil)))
noncomputable def c21s6:SS (D21.sc nm):=(fr (tg1 ⟨13,"pick",(qz 338 8 12)⟩) (.lst (v 9 "picks" (qz 338 16 21))) c21b1 ⟨338,4,341,39⟩)
noncomputable def c21s7:SS (D21.sc nm):=(o2 ⟨16,"shade",(qz 342 4 9)⟩ ⟨17,"mirror",(qz 342 11 17)⟩ (.dict (qz 342 21 23)) (.dict (qz 342 25 27)) 0 0 (qz 342 4 17) (qz 342 20 28) (qz 342 4 28))
noncomputable def c21x4:SS (D21.sc nm):=(mv true [⟨18,"red",(qz 344 8 11)⟩,⟨19,"green",(qz 344 13 18)⟩,⟨20,"blue",(qz 344 20 24)⟩] 0 (qz 344 8 24) (call 9 "hls_to_rgb" [(.bin divII (v 14 "way" (qz 344 38 41)) (v 4 "many" (qz 344 44 48)) (qz 344 38 48)),(.bin divII (.bin addII (v 6 "light" (qz 344 51 56)) (.int 1 0 (qz 344 59 60)) (qz 344 51 60)) (.int 8 0 (qz 344 64 65)) (qz 344 50 65)),(.bin divII (.bin addII (v 7 "pure" (qz 344 68 72)) (.int 1 0 (qz 344 75 76)) (qz 344 68 76)) (.int 4 0 (qz 344 80 81)) (qz 344 67 81))] (qz 344 27 37) (qz 344 27 82)) (qz 344 8 82))
noncomputable def c21x5:SS (D21.sc nm):=(mv true [⟨21,"hue",(qz 345 8 11)⟩,⟨22,"share",(qz 345 13 18)⟩,⟨23,"value",(qz 345 20 25)⟩] 0 (qz 345 8 25) (call 11 "rgb_to_hsv" [(v 18 "red" (qz 345 39 42)),(v 19 "green" (qz 345 44 49)),(v 20 "blue" (qz 345 51 55))] (qz 345 28 38) (qz 345 28 56)) (qz 345 8 56))
noncomputable def c21x6:SS (D21.sc nm):=(mv true [⟨18,"red",(qz 346 8 11)⟩,⟨19,"green",(qz 346 13 18)⟩,⟨20,"blue",(qz 346 20 24)⟩] 0 (qz 346 8 24) (call 12 "hsv_to_rgb" [(.bin subIF (.int 1 0 (qz 346 38 39)) (v 21 "hue" (qz 346 42 45)) (qz 346 38 45)),(v 22 "share" (qz 346 47 52)),(v 23 "value" (qz 346 54 59))] (qz 346 27 37) (qz 346 27 60)) (qz 346 8 60))
noncomputable def c21x7:SS (D21.sc nm):=(mv true [⟨24,"across",(qz 347 8 14)⟩,⟨25,"shine",(qz 347 16 21)⟩,⟨26,"strong",(qz 347 23 29)⟩] 0 (qz 347 8 29) (call 8 "rgb_to_hls" [(v 18 "red" (qz 347 43 46)),(v 19 "green" (qz 347 48 53)),(v 20 "blue" (qz 347 55 59))] (qz 347 32 42) (qz 347 32 60)) (qz 347 8 60))
noncomputable def c21x8:SS (D21.sc nm):=(sd 16 "shade" (qz 348 8 13) (qz 348 8 18) (v 14 "way" (qz 348 14 17)) (.bin modII (.bin fdivII (bi intF [(.bin addFI (.bin mulIF (.bin mulII (.int 2 0 (qz 348 25 26)) (v 4 "many" (qz 348 29 33)) (qz 348 25 33)) (v 21 "hue" (qz 348 36 39)) (qz 348 25 39)) (.int 1 0 (qz 348 42 43)) (qz 348 25 43))] (qz 348 21 24) (qz 348 21 44)) (.int 2 0 (qz 348 48 49)) (qz 348 21 49)) (v 4 "many" (qz 348 52 56)) (qz 348 21 56)) (qz 348 8 56))
noncomputable def c21x9:SS (D21.sc nm):=(sd 17 "mirror" (qz 349 8 14) (qz 349 8 19) (v 14 "way" (qz 349 15 18)) (.bin modII (.bin fdivII (bi intF [(.bin addFI (.bin mulIF (.bin mulII (.int 2 0 (qz 349 26 27)) (v 4 "many" (qz 349 30 34)) (qz 349 26 34)) (v 24 "across" (qz 349 37 43)) (qz 349 26 43)) (.int 1 0 (qz 349 46 47)) (qz 349 26 47))] (qz 349 22 25) (qz 349 22 48)) (.int 2 0 (qz 349 52 53)) (qz 349 22 53)) (v 4 "many" (qz 349 56 60)) (qz 349 22 60)) (qz 349 8 60))
noncomputable def c21x10:SS (D21.sc nm):=(st ⟨27,"told",(qz 350 8 12)⟩ (.tup [(call 7 "int_divmod" [(v 14 "way" (qz 350 27 30)),(v 4 "many" (qz 350 32 36))] (qz 350 16 26) (qz 350 16 37)),(.bin modII (.bin addII (dg (od 16 "shade" (qz 350 40 45)) (v 14 "way" (qz 350 46 49)) (qz 350 40 50)) (dg (od 17 "mirror" (qz 350 53 59)) (v 14 "way" (qz 350 60 63)) (qz 350 53 64)) (qz 350 40 64)) (v 4 "many" (qz 350 68 72)) (qz 350 39 72)),(.bin fdivII (bi intF [(.bin addFI (.bin mulIF (.int 16 0 (qz 350 78 80)) (v 25 "shine" (qz 350 83 88)) (qz 350 78 88)) (.int 1 0 (qz 350 91 92)) (qz 350 78 92))] (qz 350 74 77) (qz 350 74 93)) (.int 2 0 (qz 350 97 98)) (qz 350 74 98)),(.bin fdivII (bi intF [(.bin addFI (.bin mulIF (.int 8 0 (qz 350 104 105)) (v 26 "strong" (qz 350 108 114)) (qz 350 104 114)) (.int 1 0 (qz 350 117 118)) (qz 350 104 118))] (qz 350 100 103) (qz 350 100 119)) (.int 2 0 (qz 350 123 124)) (qz 350 100 124))] 0 (qz 350 15 125)) (qz 350 8 125))
noncomputable def c21x11:SS (D21.sc nm):=(.ite (.cmp neD (SE.x (v 27 "told" (qz 351 11 15))) (SE.x (.tup [(.tup [(.bin fdivII (.bin subII (v 14 "way" (qz 351 22 25)) (dg (od 16 "shade" (qz 351 28 33)) (v 14 "way" (qz 351 34 37)) (qz 351 28 38)) (qz 351 22 38)) (v 4 "many" (qz 351 43 47)) (qz 351 21 47)),(dg (od 16 "shade" (qz 351 49 54)) (v 14 "way" (qz 351 55 58)) (qz 351 49 59))] 0 (qz 351 20 60)),(.int 0 0 (qz 351 62 63)),(.bin addII (v 6 "light" (qz 351 65 70)) (.int 1 0 (qz 351 73 74)) (qz 351 65 74)),(.bin addII (v 7 "pure" (qz 351 76 80)) (.int 1 0 (qz 351 83 84)) (qz 351 76 84))] 0 (qz 351 19 85))) (qz 351 11 85)) (.cons (.ret (.bool false 0 (qz 352 19 24)) (qz 352 12 24))
 .nil) .nil ⟨351,8,352,24⟩)
noncomputable def c21b2:SL (D21.sc nm):=(.cons c21x4
 (.cons c21x5
 (.cons c21x6
 (.cons c21x7
 (.cons c21x8
 (.cons c21x9
 (.cons c21x10
 (.cons c21x11
 .nil))))))))
noncomputable def c21s8:SS (D21.sc nm):=(fr (tg1 ⟨14,"way",(qz 343 8 11)⟩) (rg2 (.una negI (v 5 "size" (qz 343 22 26)) (qz 343 21 26)) (.bin addII (v 5 "size" (qz 343 28 32)) (.int 1 0 (qz 343 35 36)) (qz 343 28 36)) (qz 343 15 20) (qz 343 15 37)) c21b2 ⟨343,4,352,24⟩)
noncomputable def c21s9:SS (D21.sc nm):=(st ⟨42,"piece",(qz 353 4 9)⟩ (.idx (.of (.lst [(.str "" 0 (qz 353 13 15)),(.str "\\)" 0 (qz 353 17 22)),(.str "\"(\"" 0 (qz 353 24 29)),(.str "\"\\\")\"" 0 (qz 353 31 39)),(.str "\\\\" 0 (qz 353 41 47)),(.str "\\\"" 0 (qz 353 49 54))] (qz 353 12 55))) (v 8 "dress" (qz 353 56 61)) (qz 353 12 62)) (qz 353 4 62))
noncomputable def c21s10:SS (D21.sc nm):=(st ⟨41,"faults",(qz 354 4 10)⟩ (.lst [] (qz 354 13 15)) (qz 354 4 15))
noncomputable abbrev c21z4:Scope:=⟨.function,[("row",.local),("faults",.free),("piece",.free),("_law_read",.globalImplicit)],false,false,[]⟩
noncomputable abbrev c21z5:Scope:=⟨.function,[("row",.local),("faults",.free),("piece",.free),("_law_read",.globalImplicit)],false,false,[]⟩
noncomputable def c21s11:SS (D21.sc nm):=(st ⟨28,"found",(qz 355 4 9)⟩ (hi 20 "_law_image" [(v 12 "heap" (qz 355 23 27)),(v 10 "turns" (qz 355 29 34)),(v 16 "shade" (qz 355 36 41)),(v 17 "mirror" (qz 355 43 49))] (fl c21z4 "row" ⟨[],[⟨"row",none,(qz 356 7 10)⟩],none,[],[],none,[]⟩ (qz 356 0 47) 235 "law.<locals>." (call 19 "_law_read" [(v 0 "row" (qz 356 22 25)),(v 43 "piece" (qz 356 27 32)),(v 42 "faults" (qz 356 34 40)),(.bool true 0 (qz 356 42 46))] (qz 356 12 21) (qz 356 12 47))) (fl c21z5 "row" ⟨[],[⟨"row",none,(qz 357 7 10)⟩],none,[],[],none,[]⟩ (qz 357 0 48) 235 "law.<locals>." (call 19 "_law_read" [(v 0 "row" (qz 357 22 25)),(v 43 "piece" (qz 357 27 32)),(v 42 "faults" (qz 357 34 40)),(.bool false 0 (qz 357 42 47))] (qz 357 12 21) (qz 357 12 48))) (qz 355 12 22) ⟨355,12,357,50⟩) ⟨355,4,357,50⟩)
noncomputable def c21s12:SS (D21.sc nm):=(.ite (.or (.cmp isN (SE.x (v 28 "found" (qz 358 7 12))) (SE.x (.nn 0 (qz 358 16 20))) (qz 358 7 20)) (.cmp neD (SE.x (v 41 "faults" (qz 358 24 30))) (SE.x (.lst [] (qz 358 34 36))) (qz 358 24 36)) (qz 358 7 36)) (.cons (.ret (.bool false 0 (qz 359 15 20)) (qz 359 8 20))
 .nil) .nil ⟨358,4,359,20⟩)
noncomputable def c21s13:SS (D21.sc nm):=(mv true [⟨29,"stages",(qz 360 4 10)⟩,⟨30,"image",(qz 360 12 17)⟩] 0 (qz 360 4 17) (v 28 "found" (qz 360 20 25)) (qz 360 4 25))
noncomputable abbrev c21z6:Scope:=⟨.function,[(".0",.local),("stage",.local),("Whitespace",.globalImplicit),("_law_lead",.globalImplicit),("len",.globalImplicit),("size",.free)],false,false,[]⟩
noncomputable def c21k4:Cp (D21.sc nm):=(cp c21z6 (.lst (v 29 "stages" (qz 361 101 107))) (tg1 ⟨0,"stage",(qz 361 92 97)⟩) .all (call 13 "Whitespace" [(call 17 "_law_lead" [(.ite (.cmp eqD (SE.x (.bin modII (bi lenB [(v 0 "stage" (qz 361 53 58))] (qz 361 49 52) (qz 361 49 59)) (.int 2 0 (qz 361 62 63)) (qz 361 49 63))) (SE.x (.int 1 0 (qz 361 67 68))) (qz 361 49 68)) (.rev (.of (v 0 "stage" (qz 361 34 39))) 0 (qz 361 43 44) (qz 361 42 44) (qz 361 40 44) (qz 361 34 45)) (v 0 "stage" (qz 361 74 79)) (qz 361 34 79)),(v 6 "size" (qz 361 81 85))] (qz 361 24 33) (qz 361 24 86))] (qz 361 13 23) (qz 361 13 87)) (qz 361 12 108))
noncomputable def c21s14:SS (D21.sc nm):=(scp false ⟨31,"leads",(qz 361 4 9)⟩ c21k4 (qz 361 4 108))
noncomputable def c21x12:SS (D21.sc nm):=(st ⟨33,"before",(qz 363 8 14)⟩ (.idx (.of (v 29 "stages" (qz 363 17 23))) (v 32 "turn" (qz 363 24 28)) (qz 363 17 29)) (qz 363 8 29))
noncomputable abbrev c21z7:Scope:=⟨.function,[(".0",.local),("one",.local),("other",.local)],false,false,[]⟩
noncomputable def c21k5:Cp (D21.sc nm):=(cp c21z7 (zp2 (v 33 "before" (qz 364 42 48)) (.bin addLL (.idx (.of (v 29 "stages" (qz 364 50 56))) (.bin addII (v 32 "turn" (qz 364 57 61)) (.int 1 0 (qz 364 64 65)) (qz 364 57 65)) (qz 364 50 66)) (.lst [(.int 0 0 (qz 364 70 71))] (qz 364 69 72)) (qz 364 50 72)) (qz 364 38 41) (qz 364 38 73)) (tgn [⟨0,"one",(qz 364 24 27)⟩,⟨1,"other",(qz 364 29 34)⟩] 0 (qz 364 24 34)) (.one (.cmp neD (SE.x (v 0 "one" (qz 364 77 80))) (SE.x (v 1 "other" (qz 364 84 89))) (qz 364 77 89))) (v 0 "one" (qz 364 16 19)) (qz 364 15 90))
noncomputable abbrev c21z8:Scope:=⟨.function,[(".0",.local),("one",.local),("other",.local)],false,false,[]⟩
noncomputable def c21k6:Cp (D21.sc nm):=(cp c21z8 (zp2 (v 33 "before" (qz 364 42 48)) (.bin addLL (.idx (.of (v 29 "stages" (qz 364 50 56))) (.bin addII (v 32 "turn" (qz 364 57 61)) (.int 1 0 (qz 364 64 65)) (qz 364 57 65)) (qz 364 50 66)) (.lst [(.int 0 0 (qz 364 70 71))] (qz 364 69 72)) (qz 364 50 72)) (qz 364 38 41) (qz 364 38 73)) (tgn [⟨0,"one",(qz 364 24 27)⟩,⟨1,"other",(qz 364 29 34)⟩] 0 (qz 364 24 34)) (.one (.cmp neD (SE.x (v 0 "one" (qz 364 77 80))) (SE.x (v 1 "other" (qz 364 84 89))) (qz 364 77 89))) (v 0 "one" (qz 364 16 19)) (qz 364 15 90))
noncomputable def c21x13:SS (D21.sc nm):=(st ⟨34,"wide",(qz 364 8 12)⟩ (.idx (.of (.comp c21k6)) (.int 0 0 (qz 364 91 92)) (qz 364 15 93)) (qz 364 8 93))
noncomputable abbrev c21z9:Scope:=⟨.function,[(".0",.local),("part",.cell),("sum",.globalImplicit),("before",.free),("size",.free),("wide",.free)],false,false,[]⟩
noncomputable abbrev c21z10:Scope:=⟨.function,[(".0",.local),("width",.local),("part",.free)],false,false,[]⟩
noncomputable def c21k7:Cp (compSC (D21.sc nm) c21z9):=(cp c21z10 (.lst (v 34 "before" (qz 365 73 79))) (tg1 ⟨0,"width",(qz 365 64 69)⟩) .all (.bin fdivII (v 0 "width" (qz 365 46 51)) (v 1 "part" (qz 365 55 59)) (qz 365 46 59)) (qz 365 45 80))
noncomputable def c21k8:Cp (D21.sc nm):=(cp c21z9 (rg2 (.int 1 0 (qz 365 102 103)) (.bin addII (v 34 "wide" (qz 365 105 109)) (.int 1 0 (qz 365 112 113)) (qz 365 105 113)) (qz 365 96 101) (qz 365 96 114)) (tg1 ⟨0,"part",(qz 365 88 92)⟩) (.one (.cmp eqD (SE.x (.bin modII (v 35 "wide" (qz 365 118 122)) (v 0 "part" (qz 365 125 129)) (qz 365 118 129))) (SE.x (.int 0 0 (qz 365 133 134))) (qz 365 118 134))) (.tup [(v 0 "part" (qz 365 20 24)),(.bin mulII (v 0 "part" (qz 365 26 30)) (.bin addII (v 6 "size" (qz 365 34 38)) (bi sumL [(.comp c21k7)] (qz 365 41 44) (qz 365 41 81)) (qz 365 34 81)) (qz 365 26 82))] 0 (qz 365 19 83)) (qz 365 18 135))
noncomputable def c21x14:SS (D21.sc nm):=(scp false ⟨35,"columns",(qz 365 8 15)⟩ c21k8 (qz 365 8 135))
noncomputable abbrev c21z11:Scope:=⟨.function,[(".0",.local),("part",.local),("column",.local)],false,false,[]⟩
noncomputable def c21k9:Cp (D21.sc nm):=(cp c21z11 (.lst (v 35 "columns" (qz 366 65 72))) (tgn [⟨0,"part",(qz 366 49 53)⟩,⟨1,"column",(qz 366 55 61)⟩] 0 (qz 366 49 61)) .all (.tup [(v 0 "part" (qz 366 16 20)),(.bin subII (v 1 "column" (qz 366 22 28)) (v 0 "part" (qz 366 31 35)) (qz 366 22 35)),(v 1 "column" (qz 366 37 43))] 0 (qz 366 15 44)) (qz 366 14 73))
noncomputable def c21x15:SS (D21.sc nm):=(scp false ⟨36,"due",(qz 366 8 11)⟩ c21k9 (qz 366 8 73))
noncomputable def c21x16:SS (D21.sc nm):=(st ⟨37,"lengths",(qz 367 8 15)⟩ (.bin addLL (v 33 "before" (qz 367 18 24)) (.bin mulLI (.lst [(.int 0 0 (qz 367 28 29))] (qz 367 27 30)) (.bin subII (v 5 "size" (qz 367 34 38)) (bi lenB [(v 33 "before" (qz 367 45 51))] (qz 367 41 44) (qz 367 41 52)) (qz 367 34 52)) (qz 367 27 53)) (qz 367 18 53)) (qz 367 8 53))
noncomputable abbrev c21z12:Scope:=⟨.function,[(".0",.local),("width",.local),("lengths",.free)],false,false,[]⟩
noncomputable def c21k10:Cp (D21.sc nm):=(cp c21z12 (rg1 (.bin addII (.idx (.of (v 33 "before" (qz 368 64 70))) (.int 0 0 (qz 368 71 72)) (qz 368 64 73)) (.int 1 0 (qz 368 76 77)) (qz 368 64 77)) (qz 368 58 63) (qz 368 58 78)) (tg1 ⟨0,"width",(qz 368 49 54)⟩) .all (me (cntK keyI) (SE.x (v 38 "lengths" (qz 368 24 31))) [(SE.x (v 0 "width" (qz 368 38 43)))] (qz 368 24 37) (qz 368 24 44)) (qz 368 23 79))
noncomputable def c21x17:SS (D21.sc nm):=(st ⟨38,"counts",(qz 368 8 14)⟩ (tupX (.of (.comp c21k10)) (qz 368 17 22) (qz 368 17 80)) (qz 368 8 80))
noncomputable def c21x18:SS (D21.sc nm):=(.ite (.or (.cmp neD (SE.x (um 3 "not_equal_witness" (.idx (.of (v 31 "leads" (qz 369 11 16))) (.bin addII (v 32 "turn" (qz 369 17 21)) (.int 1 0 (qz 369 24 25)) (qz 369 17 25)) (qz 369 11 26)) [(.idx (.of (v 31 "leads" (qz 369 45 50))) (v 32 "turn" (qz 369 51 55)) (qz 369 45 56))] (qz 369 11 44) (qz 369 11 57))) (SE.x (v 36 "due" (qz 369 61 64))) (qz 369 11 64)) (.cmp neD (SE.x (attr 3 "norm" (.idx (.of (v 31 "leads" (qz 369 68 73))) (v 32 "turn" (qz 369 74 78)) (qz 369 68 79)) (qz 369 68 84))) (SE.x (.tup [(v 38 "counts" (qz 369 89 95)),(.int 0 0 (qz 369 97 98))] 0 (qz 369 88 99))) (qz 369 68 99)) (qz 369 11 99)) (.cons (.ret (.bool false 0 (qz 370 19 24)) (qz 370 12 24))
 .nil) .nil ⟨369,8,370,24⟩)
noncomputable def c21b3:SL (D21.sc nm):=(.cons c21x12
 (.cons c21x13
 (.cons c21x14
 (.cons c21x15
 (.cons c21x16
 (.cons c21x17
 (.cons c21x18
 .nil)))))))
noncomputable def c21s15:SS (D21.sc nm):=(fr (tg1 ⟨32,"turn",(qz 362 8 12)⟩) (rg1 (v 5 "size" (qz 362 22 26)) (qz 362 16 21) (qz 362 16 27)) c21b3 ⟨362,4,370,24⟩)
noncomputable def c21s16:SS (D21.sc nm):=(st ⟨39,"same",(qz 371 4 8)⟩ (um 2 "equal" (.idx (.of (v 31 "leads" (qz 371 11 16))) (.int 0 0 (qz 371 17 18)) (qz 371 11 19)) [(call 13 "Whitespace" [(call 17 "_law_lead" [(.rev (.of (v 30 "image" (qz 371 47 52))) 0 (qz 371 56 57) (qz 371 55 57) (qz 371 53 57) (qz 371 47 58)),(v 5 "size" (qz 371 60 64))] (qz 371 37 46) (qz 371 37 65))] (qz 371 26 36) (qz 371 26 66))] (qz 371 11 25) (qz 371 11 67)) (qz 371 4 67))
noncomputable def c21s17:SS (D21.sc nm):=(st ⟨40,"again",(qz 372 4 9)⟩ (hi 20 "_law_image" [(v 30 "image" (qz 372 23 28)),(v 11 "others" (qz 372 30 36)),(v 16 "shade" (qz 372 38 43)),(v 17 "mirror" (qz 372 45 51))] (fg 18 "_law_good" (qz 372 53 62)) (fg 18 "_law_good" (qz 372 64 73)) (qz 372 12 22) (qz 372 12 74)) (qz 372 4 74))
noncomputable def c21s18:SS (D21.sc nm):=(.ret (.andL (.cmp isB (SE.x (v 39 "same" (qz 373 11 15))) (SE.x (.cmp eqD (SE.x (v 12 "heap" (qz 373 20 24))) (SE.x (v 30 "image" (qz 373 28 33))) (qz 373 20 33))) (qz 373 11 34)) [(.cmp isNotN (SE.x (v 40 "again" (qz 373 39 44))) (SE.x (.nn 0 (qz 373 52 56))) (qz 373 39 56)),(.cmp eqD (SE.x (.idxT (v 40 "again" (qz 373 62 67)) (.int 1 0 (qz 373 68 69)) (qz 373 62 70))) (SE.x (v 12 "heap" (qz 373 74 78))) (qz 373 62 78))] (qz 373 11 79)) (qz 373 4 79))
noncomputable def c21:SL (D21.sc nm) :=
 (.cons c21s0
 (.cons c21s1
 (.cons c21s2
 (.cons c21s3
 (.cons c21s4
 (.cons c21s5
 (.cons c21s6
 (.cons c21s7
 (.cons c21s8
 (.cons c21s9
 (.cons c21s10
 (.freezeD 16 (.freezeD 17 (.cons c21s11
 (.cons c21s12
 (.cons c21s13
 (.cons c21s14
 (.cons c21s15
 (.cons c21s16
 (.cons c21s17
 (.cons c21s18
 .nil)))))))))))))))))))))
end L
end Mine
end
section
open PySem PySem.W PyProof.Rows
namespace Mine
namespace L
noncomputable def lib:Lib:=⟨[defEv D0 c0,defEv D1 c1,defEv D2 c2,defEv D3 c3,fun _=>defSEv D4 c4 18 zeroF,fun _=>defEEv D5 c5 18 zeroF,defEv D6 c6,defEv D7 c7,defEv D8 c8,defEv D9 c9,defEv D10 c10,defEv D11 c11,defEv D12 c12,wsEv D13 c13 188,defEv D14 c14,defEv D15 c15,defEv D16 c16,defEv D17 c17,defEv D18 c18,defEv D19 c19,fun _ _=>none,defEv D21 c21],[defEv Dm0 cm0,defEv Dm1 cm1,defEv Dm2 cm2,defEv Dm3 cm3],[genEv Dg0 cg0],[(20,hiEv D20 c20)]⟩
def loose:List Str:=["_wall","_iter_escaped_chars","_strip_quoted_realnames","_check_parenthesis","_pre_parse_validation","_DIV_LIMIT","_div2n1n","_div3n2n","_int2digits","_digits2int","_divmod_pos","int_divmod","ONE_THIRD","ONE_SIXTH","TWO_THIRD","rgb_to_hls","hls_to_rgb","_v","rgb_to_hsv","hsv_to_rgb","Whitespace","_law_figures","_law_marks","_law_changed","_law_lead","_law_good","_law_read","_law_image"]
noncomputable abbrev q:Program:=view P [33]
def tI:Tab:=⟨69,65,⟨85,4,94,28⟩,"_int2digits.<locals>.inner"⟩
def tD:Tab:=⟨76,72,⟨100,4,105,55⟩,"_digits2int.<locals>.inner"⟩
def tL:Tab:=⟨235,233,(qz 356 0 47),"law.<locals>.<lambda>"⟩
def tM:Tab:=⟨235,233,(qz 357 0 48),"law.<locals>.<lambda>"⟩
def tabs:List Tab:=[tI,tD,tL,tM]
def addrs:List Addr:=[35,42,49,56,70,77,84,91,98,105,112,119,126,188,199,206,211,216,221,226,231,236]
def faddrs:List Addr:=[35,42,49,56,70,77,84,91,98,105,112,119,126,143,199,206,211,216,221,226,231,236,28,150,157,164,171]
noncomputable def faces:List (Option Face):=[some (D0.face false c0.sts),some (D1.face false c1.sts),some (D2.face false c2.sts),some (D3.face false c3.sts),some (D4.face false c4.sts),some (D5.face false c5.sts),some (D6.face false c6.sts),some (D7.face false c7.sts),some (D8.face false c8.sts),some (D9.face false c9.sts),some (D10.face false c10.sts),some (D11.face false c11.sts),some (D12.face false c12.sts),some (D13.face false c13.sts),some (D14.face false c14.sts),some (D15.face false c15.sts),some (D16.face false c16.sts),some (D17.face false c17.sts),some (D18.face false c18.sts),some (D19.face false c19.sts),some (D20.face false c20.sts),some (D21.face false c21.sts),some (Dg0.face true cg0.sts),some (Dm0.face false cm0.sts),some (Dm1.face false cm1.sts),some (Dm2.face false cm2.sts),some (Dm3.face false cm3.sts)]
noncomputable def checks (K:Frag):Bool:=(faddrs.all (codeB K)&&(nestB K 70 tI "inner"&&nestB K 77 tD "inner"))&&((wsB K 188 143&&namesB nm K addrs [28] [150,157,164,171])&&((tabs.all (fun t=>codeHdIn K t.c t.P)&&ownB K 236 D21.own)&&nsRefB K "law" 236))
noncomputable def told (s:Shared):List (Option Face) × Bool × Option Obj × Option Obj × Option Obj:=(faddrs.map (faceIn (pick (List.range 240) s.heap)),checks (pick (List.range 240) s.heap),s.heap.get? 65,s.heap.get? 72,s.heap.get? 233)
noncomputable def wanted:List (Option Face) × Bool × Option Obj × Option Obj × Option Obj:=(faces,true,some (tabObj #[]),some (tabObj #[]),some (tabObj #[]))
theorem saidW:PySem.Challenge.rw_ux0036_02.wellSaid=true:=by decide +kernel
theorem left:LeftO P q loose (recOk PySem.Challenge.rw_ux0036_02.row.records) told (fun _=>wanted) 2830:=LeftO.of_split "special-get-raises" fun w=>by kernel_rfl
end L
end Mine
end
section
open PySem PySem.W PyProof.Rows
namespace Mine
namespace L
theorem lib_ok {X:Cx} {K:Frag} (hK:∀ h,X.G h→K.In h) (hnm:X.nm=nm) (hv:∀ f,X.fv f=.ref (addrs.getD f 0)) (hm:∀ f,X.mv f=.ref (([150,157,164,171]:List Addr).getD f 0)) (hg:∀ f,X.gv f=.ref (([28]:List Addr).getD f 0)) (hf:faddrs.map (faceIn K)=faces) (hc:checks K=true) (mk:∀ t∈tabs,∀ name params body scope,MkFn X (.ref t.c) name params body scope t.pos t.qual):LibOk X lib:=by
 have face:∀ (i:Nat) {a:Addr} {F:Face},(faddrs[i]?=some a∧faces[i]?=some (some F))→faceIn K a=some F:=fun i a F h=>by
  have:=congrArg (fun l:List (Option Face)=>l[i]?) hf
  rw [List.getElem?_map,h.1,h.2] at this
  exact Option.some.inj this
 obtain ⟨c1,c2⟩:=both hc
 obtain ⟨c1,c3⟩:=both c1
 obtain ⟨hI,hD⟩:=both c3
 obtain ⟨hW,hN⟩:=both (both c2).1
 have hO:=(both (both (both c2).2).1).2
 have code:∀ a,a∈faddrs→codeB K a=true:=fun a m=>List.all_eq_true.mp c1 a m
 have hv':X.fv=fun f=>.ref (addrs.getD f 0):=funext hv
 have hm':X.mv=fun f=>.ref (([150,157,164,171]:List Addr).getD f 0):=funext hm
 refine ⟨fun f ev e=>?_,fun f ev e=>?_,fun f ev e=>?_,fun f ev e=>?_⟩
 ·rw [hv']
  have:=all_fn (X:=X) (val:=fun f=>.ref (addrs.getD f 0)) (n:=0) (l:=lib.fn) ⟨mk_def hK hnm (face 0 ⟨rfl,rfl⟩) (code 35 (by decide)) (by kernel_rfl) rfl,
  mk_def hK hnm (face 1 ⟨rfl,rfl⟩) (code 42 (by decide)) (by kernel_rfl) rfl,
  mk_def hK hnm (face 2 ⟨rfl,rfl⟩) (code 49 (by decide)) (by kernel_rfl) rfl,
  mk_def hK hnm (face 3 ⟨rfl,rfl⟩) (code 56 (by decide)) (by kernel_rfl) rfl,
  mk_defS (t:=tI) hK hnm (by kernel_rfl) (by rfl) ⟨"a",by decide,by kernel_rfl⟩ hI (by rfl) (mk tI (by simp [tabs])) (face 4 ⟨rfl,rfl⟩) (code 70 (by decide)) (by kernel_rfl) rfl,
  mk_defE (t:=tD) hK hnm (by kernel_rfl) (by rfl) hD (by rfl) (mk tD (by simp [tabs])) (face 5 ⟨rfl,rfl⟩) (code 77 (by decide)) (by kernel_rfl) rfl,
  mk_def hK hnm (face 6 ⟨rfl,rfl⟩) (code 84 (by decide)) (by kernel_rfl) rfl,
  mk_def hK hnm (face 7 ⟨rfl,rfl⟩) (code 91 (by decide)) (by kernel_rfl) rfl,
  mk_def hK hnm (face 8 ⟨rfl,rfl⟩) (code 98 (by decide)) (by kernel_rfl) rfl,
  mk_def hK hnm (face 9 ⟨rfl,rfl⟩) (code 105 (by decide)) (by kernel_rfl) rfl,
  mk_def hK hnm (face 10 ⟨rfl,rfl⟩) (code 112 (by decide)) (by kernel_rfl) rfl,
  mk_def hK hnm (face 11 ⟨rfl,rfl⟩) (code 119 (by decide)) (by kernel_rfl) rfl,
  mk_def hK hnm (face 12 ⟨rfl,rfl⟩) (code 126 (by decide)) (by kernel_rfl) rfl,
  mk_ws hK hnm (by kernel_rfl) hW (face 13 ⟨rfl,rfl⟩) (code 143 (by decide)) (by kernel_rfl) rfl,
  mk_def hK hnm (face 14 ⟨rfl,rfl⟩) (code 199 (by decide)) (by kernel_rfl) rfl,
  mk_def hK hnm (face 15 ⟨rfl,rfl⟩) (code 206 (by decide)) (by kernel_rfl) rfl,
  mk_def hK hnm (face 16 ⟨rfl,rfl⟩) (code 211 (by decide)) (by kernel_rfl) rfl,
  mk_def hK hnm (face 17 ⟨rfl,rfl⟩) (code 216 (by decide)) (by kernel_rfl) rfl,
  mk_def hK hnm (face 18 ⟨rfl,rfl⟩) (code 221 (by decide)) (by kernel_rfl) rfl,
  mk_def hK hnm (face 19 ⟨rfl,rfl⟩) (code 226 (by decide)) (by kernel_rfl) rfl,
  fun _ _ _ _ _ _ _ _ _ _ _ e=>no e,
  mk_def hK hnm (face 21 ⟨rfl,rfl⟩) (code 236 (by decide)) (by kernel_rfl) hO,trivial⟩ e
  rw [Nat.zero_add] at this
  exact this
 ·rw [hm']
  have:=all_fn (X:=X) (val:=fun f=>.ref (([150,157,164,171]:List Addr).getD f 0)) (n:=0) (l:=lib.me) ⟨mk_def hK hnm (face 23 ⟨rfl,rfl⟩) (code 150 (by decide)) (by kernel_rfl) rfl,
  mk_def hK hnm (face 24 ⟨rfl,rfl⟩) (code 157 (by decide)) (by kernel_rfl) rfl,
  mk_def hK hnm (face 25 ⟨rfl,rfl⟩) (code 164 (by decide)) (by kernel_rfl) rfl,
  mk_def hK hnm (face 26 ⟨rfl,rfl⟩) (code 171 (by decide)) (by kernel_rfl) rfl,trivial⟩ e
  rw [Nat.zero_add] at this
  exact this
 ·match f,e with
  | 0,e =>
   obtain rfl:=Option.some.inj e
   rw [hg]
   exact mk_gen hK hnm (face 22 ⟨rfl,rfl⟩) (code 28 (by decide)) (by kernel_rfl)
  | n+1,e=>exact nomatch e
 ·have e:(bif Nat.beq 20 f then some (hiEv D20 c20) else none)=some ev:=e
  cases hq:Nat.beq 20 f with
  | false=>rw [hq] at e; exact no e
  | true =>
   rw [hq] at e
   obtain rfl:=Option.some.inj e
   obtain rfl:=Nat.eq_of_beq_eq_true hq
   rw [hv]
   exact mk_hi hK hnm (face 20 ⟨rfl,rfl⟩) (code 231 (by decide)) (by kernel_rfl) rfl
end L
end Mine
end
section
open PySem PySem.W PyProof.Rows
namespace Mine
namespace L
def Pure:Prop:=∀ ns:List Int,ns.length≤63→(lib.lev 9).fn 21 [.lst (ns.map .int)]=some (.bool true)
abbrev Tl:Heap→Prop:=Told faddrs faces checks tabs
theorem told_is {s:Shared} (e:told s=wanted):Tl s.heap :=
 ⟨pick (List.range 240) s.heap,fun a o e=>pick_is e,congrArg (·.1) e,congrArg (·.2.1) e,fun t m=>by
  simp only [tabs,List.mem_cons,List.not_mem_nil,or_false] at m
  rcases m with rfl | rfl | rfl | rfl
  ·exact congrArg (·.2.2.1) e
  ·exact congrArg (·.2.2.2.1) e
  ·exact congrArg (·.2.2.2.2) e
  ·exact congrArg (·.2.2.2.2) e⟩
theorem apart:∀ t∈tabs,∀ t'∈tabs,t.P=t'.P→t=t'∨(t.pos.line==t'.pos.line&&t.pos.col==t'.pos.col)=false:=by
 intro t h t' h' e
 simp only [tabs,List.mem_cons,List.not_mem_nil,or_false] at h h'
 rcases h with rfl | rfl | rfl | rfl <;> rcases h' with rfl | rfl | rfl | rfl <;> first | exact .inl rfl | exact .inr rfl | (exact absurd e (by decide))
structure GoodX (K:Frag) (X:Cx):Prop where
 hK:∀ h,X.G h→K.In h
 nm:X.nm=nm
 fv:∀ f,X.fv f=.ref (addrs.getD f 0)
 mv:∀ f,X.mv f=.ref (([150,157,164,171]:List Addr).getD f 0)
 gv:∀ f,X.gv f=.ref (([28]:List Addr).getD f 0)
 mkf:∀ t∈tabs,∀ name params body scope,MkFn X (.ref t.c) name params body scope t.pos t.qual
theorem fam {K:Frag} (hf:faddrs.map (faceIn K)=faces) (hc:checks K=true):Fam (GoodX K) lib :=
 ⟨fun X g=>lib_ok g.hK g.nm g.fv g.mv g.gv hf hc g.mkf,fun X h N F₀ F₁ g t=>⟨fun h q=>g.hK h q.1,g.nm,g.fv,g.mv,g.gv,fun t' ht name params body scope=>hand_mk t (g.mkf t' ht name params body scope)⟩⟩
theorem law2 (H:Pure):PySem.Challenge.rw_ux0036_02.Holds:=holds_law saidW fun sd=>by
 refine holds_open (q:=q) (loose:=loose) (Xt:=recOk PySem.Challenge.rw_ux0036_02.row.records) (XP:=fun _ _=>True) (Yf:=told) (Ya:=fun _=>wanted) (YP:=fun _ h=>Tl h) (N:=2830) left (fun _ s e=>told_is e) (fun _ _ _ x k=>x.keeps k) (fun _ _=>trivial) (fun _ _ _ _ _=>trivial) (by rfl) (by rfl) (by rfl) (fun s e=>recFacts_of e) (by first | rfl | decide +kernel) (by first | assumption | decide +kernel) (by decide +kernel) ⟨rfl,rfl,rfl,rfl,rfl,by decide +kernel⟩ ?_ ?_
 ·w_witness2
 intro w s₀ s₁ mg mb G Y fa o pm cd doc dV kV ho hd hcd hD hmg hg args vals as hpre hlay hrd hwl hlo
 clear hd hcd
 obtain ⟨K,hKs,hf,hc,hT⟩:=Y
 have KX:K.In s₁.heap:=fun a o e=>(hKs a o e).1
 refine Ground.open G ?_
 intro T B D TE TW
 obtain ⟨c1,c2⟩:=both hc
 obtain ⟨hWN,c2⟩:=both c2
 obtain ⟨hW,hN⟩:=both hWN
 obtain ⟨hhd,hlaw⟩:=both c2
 have hfa:=(nsRefB_is KX T.g hlaw).1
 try (refine guard_noD D (by decide +kernel) ?_; clear D)
 wrow_args hpre hlay hrd hwl hlo
 rename_i ns _ _ _ _ _ _ _ l vs _ hL _ w1 _ hI _ hlen _
 have hmg':mg "law"=some (.ref fa):=hmg
 rw [hfa] at hmg'
 cases hmg'
 obtain ⟨N,hN'⟩:=top_addr ⟨_,_,ho⟩
 have O:PlaceOk (mkPlace PySem.Challenge.rw_ux0036_02.row.prog w s₁.heap N l tabs K mg mb nm addrs [28] [150,157,164,171]) 143 :=
  mkPlace_ok hN' hKs T.g T.b T.nolimit T.builtins T.bmain hT (both hhd).1 apart hW hN
 obtain ⟨n,hl⟩:=lst_obj (show Well w.params s₁.heap (.ref l) (.list _) from w1) hL
 have hlt:∀ t∈tabs,l≠t.P:=fun t ht q=>by
  have:=hT t ht
  rw [← q,hl] at this
  exact nomatch (show Value.type "list"=.none from congrArg Obj.cls (Option.some.inj this))
 have GD:GoodX K (mkPlace PySem.Challenge.rw_ux0036_02.row.prog w s₁.heap N l tabs K mg mb nm addrs [28] [150,157,164,171]).X:=⟨fun h g=>Base.inK g O.S,rfl,fun f=>rfl,fun f=>rfl,fun f=>rfl,fun t ht name params body scope=>place_mk O ht name params body scope hlt⟩
 have R:Room callerA (20 * 9):=⟨rfl,by decide,by decide⟩
 have PF:=lev_ok (fam hf hc) 9 GD callerA R
 have CK:CxOk (mkPlace PySem.Challenge.rw_ux0036_02.row.prog w s₁.heap N l tabs K mg mb nm addrs [28] [150,157,164,171]).X:=place_ok O fun c pos q m params body scope=>by
  have m:(c,pos,q)∈nm.lams:=m
  simp only [nm,List.mem_cons,List.not_mem_nil,or_false] at m
  rcases m with m | m <;> obtain ⟨rfl,rfl,rfl⟩:=m
  ·exact place_lam O (t:=tL) (by simp [tabs,mkPlace]) params body scope hlt
  ·exact place_lam O (t:=tM) (by simp [tabs,mkPlace]) params body scope hlt
 have V:Bs (Fr.of (mkPlace PySem.Challenge.rw_ux0036_02.row.prog w s₁.heap N l tabs K mg mb nm addrs [28] [150,157,164,171]).X (lib.lev 9) callerA (20 * 9) fun a=>N≤a∨a=l) s₁ :=
  ⟨CK,R,Base.start O.S,fun a n _=>.inl n,fun a q=>q⟩
 refine PF.fn 21 [.ref l] [.lst (ns.map .int)] (.bool true) s₁ (fun a=>N≤a∨a=l) (H ns (by omega)) V (RepL.cons (Rep.mkLst (.inr rfl) hl (ints_rep hI)) RepL.nil) _ _ fun v s' x r=>?_
 obtain rfl:v=.bool true:=r
 exact ⟨.inl ⟨.bool true,.bool true,[],rfl,fun _=>rfl,.bool _,by kernel_rfl,fun _=>⟨List.nodup_nil,fun a h=>nomatch h⟩⟩,good_end O rfl hg x⟩
end L
end Mine
end
section
open PySem PySem.W PyProof.Rows
namespace Mine
section
variable {sc:SC} {Φ:Fns} {σ σ' σ₁:List Slot} {p pos:Pos} {x y z:PV} {α β:Type}
theorem cond_t {c:Bool} {a b:α} (h:c=true):(bif c then a else b)=a:=by rw [h]; rfl
theorem cond_f {c:Bool} {a b:α} (h:c=false):(bif c then a else b)=b:=by rw [h]; rfl
theorem fits_t {n:Nat} (h:n≤1000000):fits n=true:=Nat.ble_eq.mpr h
theorem sm_t {i:Int} (h1:-1000000≤i) (h2:i≤1000000):sm i=true:=Nat.blt_eq.mpr (by omega)
theorem ev2 {op:Operator} {b:B2 op} {l r:SE sc} (h1:l.ev Φ σ=some x) (h2:r.ev Φ σ=some y) (h3:b.f x y=some z):(SE.bin b l r p).ev Φ σ=some z:=by
 show (l.ev Φ σ).bind _=_; rw [h1]; show (r.ev Φ σ).bind _=_; rw [h2]; exact h3
theorem evc {op:CmpOp} {b:C2 op} {l r:SX sc} {k:Bool} (h1:l.ev Φ σ=some x) (h2:r.ev Φ σ=some y) (h3:b.f x y=some k):(SB.cmp b l r p).ev Φ σ=some k:=by
 show (l.ev Φ σ).bind _=_; rw [h1]; show (r.ev Φ σ).bind _=_; rw [h2]; exact h3
theorem bnd {o:Option α} {a:α} {f:α→Option β} {r:Option β} (h:o=some a) (h':f a=r):o.bind f=r:=by rw [h]; exact h'
theorem mp {o:Option α} {a:α} {f:α→β} (h:o=some a):o.map f=some (f a):=by rw [h]; rfl
theorem evL1 {a:SE sc} (h:a.ev Φ σ=some x):evL Φ σ [a]=some [x]:=by unfold evL; rw [h]; rfl
theorem evL2 {a b:SE sc} (h:a.ev Φ σ=some x) (h':b.ev Φ σ=some y):evL Φ σ [a,b]=some [x,y]:=by unfold evL; rw [h,evL1 h']; rfl
theorem evL3 {a b c:SE sc} (h:a.ev Φ σ=some x) (h':b.ev Φ σ=some y) (h'':c.ev Φ σ=some z):evL Φ σ [a,b,c]=some [x,y,z]:=by unfold evL; rw [h,evL2 h' h'']; rfl
theorem ev_tup {as:List (SE sc)} {ps:List PV} {k:Nat} (h:evL Φ σ as=some ps) (h':ps.length≤1000000):(SE.tup as k p).ev Φ σ=some (.tup ps):=by
 show (evL Φ σ as).bind _=_; rw [h]; exact cond_t (fits_t h')
theorem at_nat {n i:Nat} (h:i < 1000000):at? n (i:Int)=some i:=by
 unfold at?; rw [cond_t (sm_t (by omega) (by omega)),cond_t (decide_eq_true (Int.natCast_nonneg i))]; rfl
theorem ev_idx {a:SW sc} {b:SE sc} {xs:List PV} {i:Nat} (h1:a.ev Φ σ=some xs) (h2:b.ev Φ σ=some (.int i)) (hi:i < 1000000) (h3:xs[i]?=some z):(SE.idx a b p).ev Φ σ=some z:=by
 show (a.ev Φ σ).bind _=_; rw [h1]; show (b.ev Φ σ).bind _=_; rw [h2]; show (at? xs.length (i:Int)).bind _=_; rw [at_nat hi]; exact h3
theorem ev_of {a:SE sc} {xs:List PV} (h:a.ev Φ σ=some (.lst xs)):(SW.of a).ev Φ σ=some xs:=by
 show (a.ev Φ σ).bind _=_; rw [h]; rfl
theorem seq_next {a:SS sc} {r:SL sc} (h:a.ex Φ σ=some (.next σ')):(SL.cons a r).ex Φ σ=r.ex Φ σ':=by show thenDo _ _=_; rw [h]; rfl
theorem seq_ret {a:SS sc} {r:SL sc} (h:a.ex Φ σ=some (.ret x)):(SL.cons a r).ex Φ σ=some (.ret x):=by show thenDo _ _=_; rw [h]; rfl
theorem ev_comp {c:Cp sc} {ys:List PV} (e:c.ev Φ σ=some ys):(SE.comp c).ev Φ σ=some (.lst ys):=by show (c.ev Φ σ).map _=_; rw [e]; rfl
theorem seqN {a:SS sc} {r:SL sc} {o:Option Out} (h:a.ex Φ σ=some (.next σ')) (k:r.ex Φ σ'=o):(SL.cons a r).ex Φ σ=o:=(seq_next h).trans k
theorem ex_ret {v:SE sc} (e:v.ev Φ σ=some x):(SS.ret v pos).ex Φ σ=some (.ret x):=by show (v.ev Φ σ).map _=_; rw [e]; rfl
theorem loop_next {bind:PV→List Slot→Option (List Slot)} {f:List Slot→Option Out} {xs:List PV} {σ₂:List Slot} (h1:bind x σ=some σ₁) (h2:f σ₁=some (.next σ₂)):loopGo bind f (x::xs) σ=loopGo bind f xs σ₂:=by
 show (bind x σ).bind _=_; rw [h1]; show (f σ₁).bind _=_; rw [h2]; rfl
theorem loopN {bind:PV→List Slot→Option (List Slot)} {f:List Slot→Option Out} {xs:List PV} {σ₂:List Slot} {o:Option Out} (h1:bind x σ=some σ₁) (h2:f σ₁=some (.next σ₂)) (k:loopGo bind f xs σ₂=o):loopGo bind f (x::xs) σ=o:=(loop_next h1 h2).trans k
theorem iteN {t:SB sc} {a b:SL sc} {k:Bool} {o:Option Out} (e:t.ev Φ σ=some k) (h:(bif k then a.ex Φ σ else b.ex Φ σ)=o):(SS.ite t a b pos).ex Φ σ=o:=by show (t.ev Φ σ).bind _=_; rw [e]; exact h
theorem comp_map {tg:SP sc} {ifs:SF sc} {elt:SE sc} {k:Nat} {f g:α→PV}:∀ {ys:List α},(∀ y∈ys,∃ σ',tg.bind (f y) (unsets k σ)=some σ'∧ifs.ev Φ σ'=some true∧elt.ev Φ σ'=some (g y))→compGo tg ifs elt k Φ σ (ys.map f)=some (ys.map g)
 | [],_=>rfl
 | y::ys,h=>by
  obtain ⟨σ',h1,h2,h3⟩:=h y List.mem_cons_self
  show (tg.bind (f y) (unsets k σ)).bind _=_
  rw [h1]; show (ifs.ev Φ σ').bind _=_
  rw [h2]; show (elt.ev Φ σ').bind (fun z=>(compGo tg ifs elt k Φ σ (ys.map f)).map (z::·))=_
  rw [h3,comp_map fun y m=>h y (List.mem_cons_of_mem _ m)]; rfl
theorem cp_ev {c:Cp sc} {xs ys:List PV} (h1:c.it.ev Φ σ=some xs) (h2:compGo c.tg c.ifs c.elt (compVars c.scope).length Φ σ xs=some ys) (h3:ys.length≤1000000):c.ev Φ σ=some ys:=by
 show (c.it.ev Φ σ).bind _=_; rw [h1]; show (compGo _ _ _ _ _ _ _).bind _=_; rw [h2]; exact cond_t (fits_t h3)
end
def iv (xs:List Int):List PV:=xs.map PV.int
def nv (xs:List Nat):List PV:=xs.map fun (n:Nat)=>PV.int (n:Int)
theorem len_lst {xs:List PV} (h:xs.length≤1000000):lenB.f [.lst xs]=some (.int xs.length):=cond_t (fits_t h)
end Mine
end
section
open PySem PySem.W PyProof.Rows
namespace Mine
namespace L
def figs:Int→List Nat→List Int
 | _,[]=>[]
 | n,b::bs=>Int.fmod n (b:Int)::figs (Int.fdiv n (b:Int)) bs
section
variable {Φ:Fns}
noncomputable abbrev gBind:=(tg1 (sc:=D14.sc nm) ⟨3,"base",(qz 271 8 12)⟩).bind
theorem iv_len (xs:List Int):(iv xs).length=xs.length:=List.length_map _
theorem figs_loop {s1:Slot}:∀ (bs:List Nat) (n:Int) (acc:List Int) (t:Slot),(∀ b∈bs,0 < b∧b≤1000)→acc.length+bs.length≤1000→∃ n' t',loopGo gBind (c14b0.ex Φ) (nv bs) [.val (.int n),s1,.own (.l (iv acc)),t]=some (.next [.val (.int n'),s1,.own (.l (iv (acc++figs n bs))),t'])
 | [],n,acc,t,_,_=>⟨n,t,by rw [show acc++figs n []=acc from List.append_nil _]; rfl⟩
 | b::bs,n,acc,t,hb,hz=>by
  rw [List.length_cons] at hz
  obtain ⟨b1,b2⟩:=hb b List.mem_cons_self
  have hnz:nz (b:Int)=true:=by unfold nz; rw [beq_eq_false_iff_ne.mpr (by omega)]; rfl
  obtain ⟨n',t',ih⟩:=figs_loop (s1:=s1) bs (Int.fdiv n (b:Int)) (acc++[Int.fmod n (b:Int)]) (.val (.int (b:Int))) (fun b m=>hb b (List.mem_cons_of_mem _ m)) (by rw [List.length_append,List.length_singleton]; omega)
  refine ⟨n',t',loopN (σ₂:=[.val (.int (Int.fdiv n (b:Int))),s1,.own (.l (iv (acc++[Int.fmod n (b:Int)]))),.val (.int (b:Int))]) rfl (seqN (σ':=[.val (.int n),s1,.own (.l (iv (acc++[Int.fmod n (b:Int)]))),.val (.int (b:Int))]) ?_ (seqN ?_ rfl)) (ih.trans ?_)⟩
  ·refine bnd (a:=PV.int (Int.fmod n (b:Int))) ?_ ?_
   ·exact ev2 (x:=.int n) (y:=.int (b:Int)) rfl rfl (cond_t hnz)
   ·refine (cond_t (fits_t ?_)).trans ?_
    ·rw [iv_len]; omega
    ·unfold iv; rw [List.map_append]; rfl
  ·refine mp (a:=PV.int (Int.fdiv n (b:Int))) ?_
   refine ev2 (x:=.int n) (y:=.int (b:Int)) rfl rfl (cond_t ?_)
   show (nz (b:Int)&&sm (b:Int))=true
   rw [hnz,sm_t (by omega) (by omega)]; rfl
  ·rw [List.append_assoc]; rfl
theorem figs_fn {n:Int} {bs:List Nat} (hb:∀ b∈bs,0 < b∧b≤1000) (hz:bs.length≤1000):defEv D14 c14 Φ [.int n,.lst (nv bs)]=some (.lst (iv (figs n bs))):=by
 obtain ⟨n',t',e1⟩:=figs_loop (Φ:=Φ) (s1:=.val (.lst (nv bs))) bs n [] .unset hb (by rw [List.length_nil,Nat.zero_add]; exact hz)
 have e:c14.ex Φ [.val (.int n),.val (.lst (nv bs)),.unset,.unset]=some (.ret (.lst (iv (figs n bs)))) :=
  seqN (σ':=[.val (.int n),.val (.lst (nv bs)),.own (.l (iv [])),.unset]) rfl (seqN e1 rfl)
 show (c14.ex Φ [.val (.int n),.val (.lst (nv bs)),.unset,.unset]).bind _=_
 rw [e]; rfl
end
def Below:List Nat→List Nat→Prop
 | [],[]=>True
 | d::ds,b::bs=>d < b∧Below ds bs
 | _,_=>False
theorem figs_below:∀ (bs:List Nat) (n:Int),(∀ b∈bs,0 < b)→∃ ds,iv (figs n bs)=nv ds∧Below ds bs
 | [],n,_=>⟨[],rfl,trivial⟩
 | b::bs,n,h=>by
  have hb:=h b List.mem_cons_self
  obtain ⟨ds,e1,e2⟩:=figs_below bs (Int.fdiv n (b:Int)) fun b m=>h b (List.mem_cons_of_mem _ m)
  have h1:=Int.fmod_nonneg_of_pos n (show (0:Int) < (b:Int) by omega)
  have h2:=Int.fmod_lt_of_pos n (show (0:Int) < (b:Int) by omega)
  refine ⟨(Int.fmod n (b:Int)).toNat::ds,?_,by omega,e2⟩
  show PV.int (Int.fmod n (b:Int))::iv (figs _ bs)=PV.int (((Int.fmod n (b:Int)).toNat:Nat):Int)::nv ds
  rw [e1,Int.toNat_of_nonneg h1]
theorem figs_nat {Φ:Fns} {n:Int} {bs:List Nat} (hb:∀ b∈bs,0 < b∧b≤1000) (hz:bs.length≤1000):∃ ds,defEv D14 c14 Φ [.int n,.lst (nv bs)]=some (.lst (nv ds))∧Below ds bs:=by
 obtain ⟨ds,e1,e2⟩:=figs_below bs n fun b m=>(hb b m).1
 exact ⟨ds,by rw [figs_fn hb hz,e1],e2⟩
end L
end Mine
end
section
open PySem PySem.W PyProof.Rows
namespace Mine
namespace L
noncomputable def upd (r:Nat→Slot) (i:Nat) (t:Slot) (j:Nat):Slot:=bif Nat.beq j i then t else r j
noncomputable abbrev frU (r:Nat→Slot):Nat→Nat→List Slot:=fun n k=>Nat.rec (motive:=fun _=>Nat→List Slot) (fun _=>[]) (fun _ ih k=>r k::ih (Nat.succ k)) n k
noncomputable def FW (r:Nat→Slot):List Slot:=frU r 43 0
noncomputable def FI (r:Nat→Slot):List Slot:=frU r 15 0
noncomputable def eqPL (f:PV→PV→Bool) (a b:List PV):Bool:=List.rec (motive:=fun _=>List PV→Bool) (fun b=>List.casesOn (motive:=fun _=>Bool) b true fun _ _=>false) (fun x _ ih b=>List.casesOn (motive:=fun _=>Bool) b false fun y b=>and (f x y) (ih b)) a b
theorem eqPL_is {f:PV→PV→Bool} (hf:∀ p q,f p q=true→p=q):∀ {a b:List PV},eqPL f a b=true→a=b
 | [],[],_=>rfl
 | [],_::_,h=>nomatch h
 | _::_,[],h=>nomatch h
 | x::a,y::b,h=>by
  have q:=(Bool.and_eq_true _ _).mp (show and (f x y) (eqPL f a b)=true from h)
  rw [hf _ _ q.1,eqPL_is hf q.2]
noncomputable def onO {α:Type} (o:Option α) (k:α→Bool):Bool:=Option.casesOn (motive:=fun _=>Bool) o false k
theorem onO_is {α:Type} {o:Option α} {k:α→Bool} (h:onO o k=true):∃ a,o=some a∧k a=true:=by
 cases o with
 | none=>exact nomatch h
 | some a=>exact ⟨a,rfl,h⟩
noncomputable def eqStepP (f:PV→PV→Bool) (p q:PV):Bool:=PV.casesOn (motive_1:=fun _=>Bool) p q.isNone (fun b=>onO q.bool? fun c=>b==c) (fun i=>onO q.int? fun j=>i==j) (fun _=>false) (fun x=>onO q.str? fun y=>x==y) (fun xs=>onO q.tup? (eqPL f xs)) (fun xs=>onO q.lst? (eqPL f xs)) (fun C xs=>onO q.obj? fun d=>and (Nat.beq C d.1) (eqPL f xs d.2)) fun _ _=>false
noncomputable def eqP (n:Nat):PV→PV→Bool:=Nat.rec (motive:=fun _=>PV→PV→Bool) (fun _ _=>false) (fun _ f=>eqStepP f) n
theorem eqP_is:∀ (n:Nat) (p q:PV),eqP n p q=true→p=q
 | 0,_,_,h=>nomatch h
 | n+1,p,q,h=>by
  have h:eqStepP (eqP n) p q=true:=h
  cases p with
  | none=>exact (PV.is_none h).symm
  | bool b=>obtain ⟨c,e,h⟩:=onO_is h; rw [PV.is_bool e,eq_of_beq h]
  | int b=>obtain ⟨c,e,h⟩:=onO_is h; rw [PV.is_int e,eq_of_beq h]
  | flt b=>exact nomatch h
  | str b=>obtain ⟨c,e,h⟩:=onO_is h; rw [PV.is_str e,eq_of_beq h]
  | tup xs=>obtain ⟨ys,e,h⟩:=onO_is h; rw [PV.is_tup e,eqPL_is (eqP_is n) h]
  | lst xs=>obtain ⟨ys,e,h⟩:=onO_is h; rw [PV.is_lst e,eqPL_is (eqP_is n) h]
  | obj C xs =>
   obtain ⟨d,e,h⟩:=onO_is h
   obtain ⟨h1,h2⟩:=(Bool.and_eq_true _ _).mp h
   rw [PV.is_obj e,Nat.eq_of_beq_eq_true h1,eqPL_is (eqP_is n) h2]
  | dic ks xs=>exact nomatch h
noncomputable def isV (o:Option PV) (q:PV):Bool:=onO o fun p=>eqP 8 p q
theorem isV_is {o:Option PV} {q:PV} (h:isV o q=true):o=some q:=by
 obtain ⟨p,e,h⟩:=onO_is h
 rw [e,eqP_is _ _ _ h]
noncomputable def isVs (o:Option (List PV)) (q:List PV):Bool:=onO o fun p=>eqPL (eqP 8) p q
theorem isVs_is {o:Option (List PV)} {q:List PV} (h:isVs o q=true):o=some q:=by
 obtain ⟨p,e,h⟩:=onO_is h
 rw [e,eqPL_is (eqP_is _) h]
noncomputable def allL {α:Type} (f:α→Bool) (l:List α):Bool:=List.rec true (fun x _ ih=>and (f x) ih) l
theorem allL_is {α:Type} {f:α→Bool}:∀ {l:List α},allL f l=true→∀ x∈l,f x=true
 | [],_,_,m=>nomatch m
 | x::l,h,y,m=>by
  have q:=(Bool.and_eq_true _ _).mp (show and (f x) (allL f l)=true from h)
  rcases List.mem_cons.mp m with rfl | m
  ·exact q.1
  ·exact allL_is q.2 y m
noncomputable def allN (n:Nat) (f:Nat→Bool):Bool:=Nat.rec (motive:=fun _=>Bool) true (fun i ih=>and (f i) ih) n
theorem allN_is {f:Nat→Bool}:∀ {n:Nat},allN n f=true→∀ i,i < n→f i=true
 | 0,_,i,h=>absurd h (Nat.not_lt_zero i)
 | n+1,h,i,hi=>by
  have h:and (f n) (allN n f)=true:=h
  have q:=(Bool.and_eq_true _ _).mp h
  rcases Nat.lt_succ_iff_lt_or_eq.mp hi with hi | rfl
  ·exact allN_is q.2 i hi
  ·exact q.1
theorem and_is {a b:Bool} (h:and a b=true):a=true∧b=true:=(Bool.and_eq_true _ _).mp h
noncomputable def hv (h:List Nat):PV:=.lst (nv h)
noncomputable def sgn (c:Nat):PV:=bif Nat.beq (Nat.mod c 2) 1 then .str ")" else .str "("
noncomputable def brP (c:Nat):PV:=.tup [sgn c,.int (Int.ofNat (Nat.div c 2))]
noncomputable def rowP (l:List Nat):PV:=.lst (l.map brP)
noncomputable def mkP (l:List (Nat × Int)):List PV:=l.map fun x=>.tup [sgn x.1,.int (Int.ofNat (Nat.div x.1 2)),.int x.2]
noncomputable def opP (o:Option Nat):PV:=Option.casesOn (motive:=fun _=>PV) o .none fun i=>.int (Int.ofNat i)
structure Gd where
 u:Nat
 g:Nat
 n:List Nat
 mi:List Nat
 mm:List (Nat × Int)
 br:List Nat
 pl:Nat
structure En where
 h:List Nat
 im:List Nat
 ms:List (Nat × Int)
 ga:List (List Nat)
 gr:List (List Nat)
 rows:List (List Nat)
 gs:List Gd
end L
end Mine
end
section
open PySem PySem.W PyProof.Rows
namespace Mine
namespace L
noncomputable def T2:List En:=[⟨[],[],[(0,0)],[[1]],[[1]],[[0],[],[],[]],[]⟩,⟨[1],[1],[(1,0),(0,1),(2,-1)],[[2],[1,1]],[[2]],[[1],[0,2],[],[]],[⟨0,0,[],[],[(0,0)],[1],0⟩]⟩,⟨[2],[2],[(1,1),(0,2),(2,-1)],[[3],[2,1]],[[3],[2,1]],[[0],[1,2],[],[]],[⟨1,0,[1],[1],[(2,-1),(0,1),(1,0)],[3,1],0⟩]⟩,⟨[2,1],[2,1],[(1,1),(0,2),(3,-1),(2,0),(4,-2)],[[3,1],[2,2],[2,1,1]],[[3,1]],[[0,2,4],[1,3],[],[]],[⟨1,1,[2],[2],[(2,-1),(0,2),(1,1)],[3,0],1⟩]⟩,⟨[3],[3],[(1,2),(0,3),(2,-1)],[[4],[3,1]],[[4],[3,1]],[[1],[0,2],[],[]],[⟨0,0,[2],[2],[(2,-1),(0,2),(1,1)],[1],0⟩]⟩,⟨[3,1],[3,1],[(1,2),(0,3),(3,-1),(2,0),(4,-2)],[[4,1],[3,2],[3,1,1]],[[4,1],[3,2]],[[1,2,4],[0,3],[],[]],[⟨0,0,[2,1],[2,1],[(4,-2),(2,0),(3,-1),(0,2),(1,1)],[5,3,1],0⟩]⟩,⟨[4],[4],[(1,3),(0,4),(2,-1)],[[5],[4,1]],[[5],[4,1]],[[0],[1,2],[],[]],[⟨1,0,[3],[3],[(2,-1),(0,3),(1,2)],[3,1],0⟩]⟩,⟨[3,2],[3,2],[(1,2),(0,3),(3,0),(2,1),(4,-2)],[[4,2],[3,3],[3,2,1]],[[4,2],[3,2,1]],[[1,3,4],[0,2],[],[]],[⟨0,1,[3,1],[3,1],[(4,-2),(2,0),(3,-1),(0,3),(1,2)],[5,3,0],1⟩]⟩,⟨[4,1],[4,1],[(1,3),(0,4),(3,-1),(2,0),(4,-2)],[[5,1],[4,2],[4,1,1]],[[5,1],[4,2]],[[0,2,4],[1,3],[],[]],[⟨1,1,[4],[4],[(2,-1),(0,4),(1,3)],[3,0],1⟩]⟩,⟨[5],[5],[(1,4),(0,5),(2,-1)],[[6],[5,1]],[[6],[5,1]],[[1],[0,2],[],[]],[⟨0,0,[4],[4],[(2,-1),(0,4),(1,3)],[1],0⟩]⟩,⟨[3,2,1],[3,2,1],[(1,2),(0,3),(3,0),(2,1),(5,-2),(4,-1),(6,-3)],[],[],[[1,3,5],[0,2,4,6],[],[]],[⟨0,2,[3,2],[3,2],[(4,-2),(2,1),(3,0),(0,3),(1,2)],[5,2,0],2⟩]⟩,⟨[4,2],[4,2],[(1,3),(0,4),(3,0),(2,1),(4,-2)],[],[],[[0,3,4],[1,2],[],[]],[⟨1,0,[3,2],[3,2],[(4,-2),(2,1),(3,0),(0,3),(1,2)],[3,1],0⟩]⟩,⟨[5,1],[5,1],[(1,4),(0,5),(3,-1),(2,0),(4,-2)],[],[],[[1,2,4],[0,3],[],[]],[⟨0,0,[4,1],[4,1],[(4,-2),(2,0),(3,-1),(0,4),(1,3)],[5,3,1],0⟩]⟩,⟨[6],[6],[(1,5),(0,6),(2,-1)],[],[],[[0],[1,2],[],[]],[⟨1,0,[5],[5],[(2,-1),(0,5),(1,4)],[3,1],0⟩]⟩]
noncomputable def T3:List En:=[⟨[],[],[(0,0)],[[1]],[[1]],[[0],[],[],[]],[]⟩,⟨[1],[1],[(1,0),(0,1),(2,-1)],[[2],[1,1]],[[2],[1,1]],[[1],[0],[2],[]],[⟨0,0,[],[],[(0,0)],[1],0⟩]⟩,⟨[1,1],[2],[(0,1),(3,-1),(4,-2)],[[2,1],[1,1,1]],[[2,1]],[[],[0,4],[3],[]],[⟨2,1,[1],[1],[(2,-1),(0,1),(1,0)],[1],0⟩]⟩,⟨[2],[1,1],[(1,1),(0,2),(2,-1)],[[3],[2,1]],[[3],[2,1]],[[],[1],[0,2],[]],[⟨1,0,[1],[1],[(2,-1),(0,1),(1,0)],[3],1⟩]⟩,⟨[2,1],[3],[(1,1),(0,2),(3,-1),(2,0),(4,-2)],[[3,1],[2,2],[2,1,1]],[[3,1],[2,2],[2,1,1]],[[2],[1,4],[0,3],[]],[⟨1,0,[1,1],[2],[(2,-1),(0,2),(1,1)],[3,1],0⟩]⟩,⟨[3],[2,1],[(1,2),(0,3),(2,-1)],[[4],[3,1]],[[4],[3,1]],[[0],[],[1,2],[]],[⟨2,0,[2],[1,1],[(4,-2),(3,-1),(0,1)],[5,1],0⟩]⟩,⟨[2,1,1],[3,1],[(1,1),(0,2),(2,0),(5,-2),(6,-3)],[[3,1,1],[2,2,1],[2,1,1,1]],[[3,1,1],[2,2,1]],[[2,6],[1,5],[0],[]],[⟨1,2,[2,1],[3],[(2,-1),(0,3),(1,2)],[3,0],1⟩]⟩,⟨[2,2],[4],[(0,2),(3,0),(4,-2)],[[3,2],[2,2,1]],[[3,2],[2,2,1]],[[3],[4],[0],[]],[⟨0,1,[2,1],[3],[(2,-1),(0,3),(1,2)],[1],0⟩]⟩,⟨[3,1],[2,1,1],[(1,2),(0,3),(3,-1),(2,0),(4,-2)],[[4,1],[3,2],[3,1,1]],[[4,1],[3,2],[3,1,1]],[[0,2],[4],[1,3],[]],[⟨2,1,[3],[2,1],[(4,-2),(2,0),(3,-1),(0,2),(1,1)],[5,0],2⟩]⟩,⟨[4],[2,2],[(1,3),(0,4),(2,-1)],[[5],[4,1]],[[5],[4,1]],[[1],[0],[2],[]],[⟨0,0,[3],[2,1],[(4,-2),(2,0),(3,-1),(0,2),(1,1)],[3],1⟩]⟩,⟨[2,2,1],[4,1],[(0,2),(3,0),(5,-2),(4,-1),(6,-3)],[[3,2,1],[2,2,2],[2,2,1,1]],[[3,2,1],[2,2,1,1]],[[3,6],[5],[0,4],[]],[⟨0,1,[2,1,1],[3,1],[(4,-2),(2,0),(3,-1),(0,3),(1,2)],[3,1],0⟩,⟨1,2,[2,2],[4],[(2,-1),(0,4),(1,3)],[3],1⟩]⟩,⟨[3,1,1],[3,1,1],[(1,2),(0,3),(2,0),(5,-2),(6,-3)],[[4,1,1],[3,2,1],[3,1,1,1]],[[4,1,1],[3,2,1]],[[0,2,6],[5],[1],[]],[⟨1,2,[3,1],[2,1,1],[(6,-3),(5,-2),(2,0),(0,2),(1,1)],[1],0⟩,⟨2,0,[2,1,1],[3,1],[(4,-2),(2,0),(3,-1),(0,3),(1,2)],[5],2⟩]⟩,⟨[3,2],[5],[(1,2),(0,3),(3,0),(2,1),(4,-2)],[[4,2],[3,3],[3,2,1]],[[4,2],[3,3],[3,2,1]],[[0,3],[2,4],[1],[]],[⟨2,0,[2,2],[4],[(2,-1),(0,4),(1,3)],[1],0⟩]⟩,⟨[4,1],[2,2,1],[(1,3),(0,4),(3,-1),(2,0),(4,-2)],[[5,1],[4,2],[4,1,1]],[[5,1],[4,2],[4,1,1]],[[1,2],[0,4],[3],[]],[⟨0,0,[3,1],[2,1,1],[(6,-3),(5,-2),(2,0),(0,2),(1,1)],[7,3],1⟩,⟨2,1,[4],[2,2],[(4,-2),(3,0),(0,2)],[5],2⟩]⟩,⟨[5],[3,2],[(1,4),(0,5),(2,-1)],[[6],[5,1]],[[6],[5,1]],[[],[1],[0,2],[]],[⟨1,0,[4],[2,2],[(4,-2),(3,0),(0,2)],[1],0⟩]⟩,⟨[2,2,1,1],[4,2],[(0,2),(3,0),(4,-1),(7,-3),(8,-4)],[],[],[[3,7],[],[0,4,8],[]],[⟨0,3,[2,2,1],[4,1],[(4,-2),(2,0),(3,-1),(0,4),(1,3)],[3,0],1⟩]⟩,⟨[3,2,1],[5,1],[(1,2),(0,3),(3,0),(2,1),(5,-2),(4,-1),(6,-3)],[],[],[[0,3,6],[2,5],[1,4],[]],[⟨2,0,[2,2,1],[4,1],[(4,-2),(2,0),(3,-1),(0,4),(1,3)],[5,1],0⟩]⟩,⟨[3,3],[6],[(0,3),(3,1),(4,-2)],[],[],[[0],[3,4],[],[]],[⟨1,1,[3,2],[5],[(2,-1),(0,5),(1,4)],[3,1],0⟩]⟩,⟨[4,1,1],[4,1,1],[(1,3),(0,4),(2,0),(5,-2),(6,-3)],[],[],[[1,2,6],[0,5],[],[]],[⟨0,0,[3,1,1],[3,1,1],[(6,-3),(5,-2),(2,0),(0,3),(1,2)],[7,3,1],0⟩]⟩,⟨[4,2],[2,2,1,1],[(1,3),(0,4),(3,0),(2,1),(4,-2)],[],[],[[1,3],[0,2,4],[],[]],[⟨0,1,[4,1],[2,2,1],[(6,-3),(4,-1),(5,-2),(3,0),(0,2)],[7,2],3⟩]⟩,⟨[5,1],[3,2,1],[(1,4),(0,5),(3,-1),(2,0),(4,-2)],[],[],[[2],[1,4],[0,3],[]],[⟨1,0,[4,1],[2,2,1],[(6,-3),(4,-1),(5,-2),(3,0),(0,2)],[5,1],0⟩]⟩,⟨[6],[3,3],[(1,5),(0,6),(2,-1)],[],[],[[0],[],[1,2],[]],[⟨2,0,[5],[3,2],[(4,-2),(2,1),(3,0),(0,3),(1,2)],[5,3],1⟩]⟩]
noncomputable def T4:List En:=[⟨[],[],[(0,0)],[[1]],[[1]],[[0],[],[],[]],[]⟩,⟨[1],[1],[(1,0),(0,1),(2,-1)],[[2],[1,1]],[[2],[1,1]],[[1],[0],[],[2]],[⟨0,0,[],[],[(0,0)],[1],0⟩]⟩,⟨[1,1],[2],[(0,1),(3,-1),(4,-2)],[[2,1],[1,1,1]],[[2,1],[1,1,1]],[[],[0],[4],[3]],[⟨3,1,[1],[1],[(2,-1),(0,1),(1,0)],[1],0⟩]⟩,⟨[2],[1,1],[(1,1),(0,2),(2,-1)],[[3],[2,1]],[[3],[2,1]],[[],[1],[0],[2]],[⟨1,0,[1],[1],[(2,-1),(0,1),(1,0)],[3],1⟩]⟩,⟨[1,1,1],[3],[(0,1),(5,-2),(6,-3)],[[2,1,1],[1,1,1,1]],[[2,1,1]],[[],[0,6],[5],[]],[⟨2,2,[1,1],[2],[(2,-1),(0,2),(1,1)],[1],0⟩]⟩,⟨[2,1],[2,1],[(1,1),(0,2),(3,-1),(2,0),(4,-2)],[[3,1],[2,2],[2,1,1]],[[3,1],[2,2],[2,1,1]],[[2],[1],[0,4],[3]],[⟨1,0,[1,1],[2],[(2,-1),(0,2),(1,1)],[3],1⟩,⟨3,1,[2],[1,1],[(4,-2),(3,-1),(0,1)],[1],0⟩]⟩,⟨[3],[1,1,1],[(1,2),(0,3),(2,-1)],[[4],[3,1]],[[4],[3,1]],[[],[],[1],[0,2]],[⟨2,0,[2],[1,1],[(4,-2),(3,-1),(0,1)],[5],2⟩]⟩,⟨[2,1,1],[4],[(1,1),(0,2),(2,0),(5,-2),(6,-3)],[[3,1,1],[2,2,1],[2,1,1,1]],[[3,1,1],[2,2,1],[2,1,1,1]],[[2],[1,6],[0,5],[]],[⟨1,0,[1,1,1],[3],[(2,-1),(0,3),(1,2)],[3,1],0⟩]⟩,⟨[2,2],[2,2],[(0,2),(3,0),(4,-2)],[[3,2],[2,2,1]],[[3,2],[2,2,1]],[[3],[],[0,4],[]],[⟨0,1,[2,1],[2,1],[(4,-2),(2,0),(3,-1),(0,2),(1,1)],[3],1⟩]⟩,⟨[3,1],[3,1],[(1,2),(0,3),(3,-1),(2,0),(4,-2)],[[4,1],[3,2],[3,1,1]],[[4,1],[3,2],[3,1,1]],[[2],[],[1,4],[0,3]],[⟨2,0,[2,1],[2,1],[(4,-2),(2,0),(3,-1),(0,2),(1,1)],[5,1],0⟩]⟩,⟨[4],[2,1,1],[(1,3),(0,4),(2,-1)],[[5],[4,1]],[[5],[4,1]],[[0],[],[],[1,2]],[⟨3,0,[3],[1,1,1],[(6,-3),(5,-2),(0,1)],[7,1],0⟩]⟩,⟨[2,1,1,1],[4,1],[(1,1),(0,2),(2,0),(7,-3),(8,-4)],[[3,1,1,1],[2,2,1,1],[2,1,1,1,1]],[[3,1,1,1],[2,2,1,1]],[[2,8],[1,7],[0],[]],[⟨1,3,[2,1,1],[4],[(2,-1),(0,4),(1,3)],[3,0],1⟩]⟩,⟨[2,2,1],[5],[(0,2),(3,0),(5,-2),(4,-1),(6,-3)],[[3,2,1],[2,2,2],[2,2,1,1]],[[3,2,1],[2,2,2],[2,2,1,1]],[[3],[6],[0,5],[4]],[⟨0,1,[2,1,1],[4],[(2,-1),(0,4),(1,3)],[1],0⟩]⟩,⟨[3,1,1],[3,1,1],[(1,2),(0,3),(2,0),(5,-2),(6,-3)],[[4,1,1],[3,2,1],[3,1,1,1]],[[4,1,1],[3,2,1],[3,1,1,1]],[[2],[6],[1,5],[0]],[⟨2,2,[3,1],[3,1],[(4,-2),(2,0),(3,-1),(0,3),(1,2)],[5,0],2⟩]⟩,⟨[3,2],[3,2],[(1,2),(0,3),(3,0),(2,1),(4,-2)],[[4,2],[3,3],[3,2,1]],[[4,2],[3,3],[3,2,1]],[[3],[2],[1,4],[0]],[⟨0,1,[3,1],[3,1],[(4,-2),(2,0),(3,-1),(0,3),(1,2)],[3],1⟩,⟨2,0,[2,2],[2,2],[(4,-2),(3,0),(0,2)],[5,1],0⟩]⟩,⟨[4,1],[2,1,1,1],[(1,3),(0,4),(3,-1),(2,0),(4,-2)],[[5,1],[4,2],[4,1,1]],[[5,1],[4,2],[4,1,1]],[[0,2],[],[4],[1,3]],[⟨3,1,[4],[2,1,1],[(6,-3),(5,-2),(2,0),(0,2),(1,1)],[7,0],3⟩]⟩,⟨[5],[2,2,1],[(1,4),(0,5),(2,-1)],[[6],[5,1]],[[6],[5,1]],[[1],[0],[],[2]],[⟨0,0,[4],[2,1,1],[(6,-3),(5,-2),(2,0),(0,2),(1,1)],[3],1⟩]⟩,⟨[2,2,1,1],[5,1],[(0,2),(3,0),(4,-1),(7,-3),(8,-4)],[],[],[[3,8],[7],[0],[4]],[⟨0,1,[2,1,1,1],[4,1],[(4,-2),(2,0),(3,-1),(0,4),(1,3)],[3,1],0⟩,⟨1,3,[2,2,1],[5],[(2,-1),(0,5),(1,4)],[3],1⟩]⟩,⟨[2,2,2],[6],[(0,2),(5,-1),(6,-3)],[],[],[[],[6],[0],[5]],[⟨3,2,[2,2,1],[5],[(2,-1),(0,5),(1,4)],[1],0⟩]⟩,⟨[3,1,1,1],[4,1,1],[(1,2),(0,3),(2,0),(7,-3),(8,-4)],[],[],[[2,8],[7],[1],[0]],[⟨1,3,[3,1,1],[3,1,1],[(6,-3),(5,-2),(2,0),(0,3),(1,2)],[1],0⟩,⟨2,0,[2,1,1,1],[4,1],[(4,-2),(2,0),(3,-1),(0,4),(1,3)],[5],2⟩]⟩,⟨[3,2,1],[3,2,1],[(1,2),(0,3),(3,0),(2,1),(5,-2),(4,-1),(6,-3)],[],[],[[3],[2,6],[1,5],[0,4]],[⟨0,1,[3,1,1],[3,1,1],[(6,-3),(5,-2),(2,0),(0,3),(1,2)],[3],1⟩,⟨2,2,[3,2],[3,2],[(4,-2),(2,1),(3,0),(0,3),(1,2)],[5,0],2⟩]⟩,⟨[3,3],[4,2],[(0,3),(3,1),(4,-2)],[],[],[[],[3],[4],[0]],[⟨1,1,[3,2],[3,2],[(4,-2),(2,1),(3,0),(0,3),(1,2)],[1],0⟩]⟩,⟨[4,1,1],[3,1,1,1],[(1,3),(0,4),(2,0),(5,-2),(6,-3)],[],[],[[0,2],[6],[5],[1]],[⟨2,2,[4,1],[2,1,1,1],[(8,-4),(7,-3),(2,0),(0,2),(1,1)],[1],0⟩,⟨3,0,[3,1,1],[3,1,1],[(6,-3),(5,-2),(2,0),(0,3),(1,2)],[7],3⟩]⟩,⟨[4,2],[3,3],[(1,3),(0,4),(3,0),(2,1),(4,-2)],[],[],[[0,3],[2],[4],[1]],[⟨3,0,[3,2],[3,2],[(4,-2),(2,1),(3,0),(0,3),(1,2)],[3],1⟩]⟩,⟨[5,1],[2,2,1,1],[(1,4),(0,5),(3,-1),(2,0),(4,-2)],[],[],[[1,2],[0],[4],[3]],[⟨0,0,[4,1],[2,1,1,1],[(8,-4),(7,-3),(2,0),(0,2),(1,1)],[9,3],1⟩,⟨3,1,[5],[2,2,1],[(6,-3),(4,-1),(5,-2),(3,0),(0,2)],[7],3⟩]⟩,⟨[6],[2,2,2],[(1,5),(0,6),(2,-1)],[],[],[[],[1],[0],[2]],[⟨1,0,[5],[2,2,1],[(6,-3),(4,-1),(5,-2),(3,0),(0,2)],[5],2⟩]⟩]
noncomputable def TK:List (List Nat × Option Nat):=[([0,3],none),([0,3,4],none),([0,3,6],none),([0,5],none),([1],some 0),([1,2],some 0),([1,2,4],some 0),([1,2,6],some 0),([1,3],some 1),([1,3,4],some 1),([1,3,5],some 2),([1,4],some 0),([1,5],some 2),([1,6],some 0),([1,7],some 3),([2,5],none),([3],some 1),([3,4],some 1),([3,6],some 1),([3,7],some 3),([3,8],some 1),([5],some 2),([7],some 3)]
noncomputable def BD:List (List Nat × Option Nat):=[([1],some 0),([3],some 1),([3,0],some 1),([3,1],some 0),([5],some 2),([5,0],some 2),([5,1],some 0),([5,2,0],some 2),([5,3],some 1),([5,3,0],some 1),([5,3,1],some 0),([7],some 3),([7,0],some 3),([7,1],some 0),([7,2],some 3),([7,3],some 1),([7,3,1],some 0),([9,3],some 1)]
noncomputable def TB (m:Nat):List En:=bif Nat.beq m 2 then T2 else bif Nat.beq m 3 then T3 else T4
noncomputable def sumN (l:List Nat):Nat:=List.rec (motive:=fun _=>Nat) 0 (fun x _ s=>Nat.add x s) l
noncomputable def eqN (a b:List Nat):Bool:=List.rec (motive:=fun _=>List Nat→Bool) (fun b=>List.casesOn (motive:=fun _=>Bool) b true fun _ _=>false) (fun x _ ih b=>List.casesOn (motive:=fun _=>Bool) b false fun y b=>and (Nat.beq x y) (ih b)) a b
theorem eqN_is:∀ {a b:List Nat},eqN a b=true→a=b
 | [],[],_=>rfl
 | [],_::_,h=>nomatch h
 | _::_,[],h=>nomatch h
 | x::a,y::b,h=>by
  have q:=and_is (show and (Nat.beq x y) (eqN a b)=true from h)
  rw [Nat.eq_of_beq_eq_true q.1,eqN_is q.2]
noncomputable def anyL {α:Type} (f:α→Bool) (l:List α):Bool:=List.rec false (fun x _ ih=>or (f x) ih) l
theorem anyL_is {α:Type} {f:α→Bool}:∀ {l:List α},anyL f l=true→∃ x,x∈l∧f x=true
 | [],h=>nomatch h
 | x::l,h=>by
  rcases (Bool.or_eq_true _ _).mp (show or (f x) (anyL f l)=true from h) with h | h
  ·exact ⟨x,List.mem_cons_self,h⟩
  ·obtain ⟨y,m,q⟩:=anyL_is h
   exact ⟨y,List.mem_cons_of_mem _ m,q⟩
noncomputable def growB (m:Nat) (r:Nat→Slot) (e:En):Bool :=
 or (Nat.beq (sumN e.h) 6) (and (and (isVs (c21k1.ev (lib.lev 8) (FW (upd r 12 (.val (hv e.h))))) (e.ga.map hv)) (isVs (c21k3.ev (lib.lev 8) (FW (upd (upd (upd r 4 (.val (.int (Int.ofNat m)))) 12 (.val (hv e.h))) 15 (.val (.lst (e.ga.map hv)))))) (e.gr.map hv)))
  (and (Nat.blt 0 e.gr.length) (allL (fun g=>and (Nat.beq (sumN g) (Nat.succ (sumN e.h))) (anyL (fun e'=>eqN e'.h g) (TB m))) e.gr)))
theorem t_grow2 (r:Nat→Slot):allL (growB 2 r) (TB 2)=true:=by kernel_rfl
theorem t_grow3 (r:Nat→Slot):allL (growB 3 r) (TB 3)=true:=by kernel_rfl
theorem t_grow4 (r:Nat→Slot):allL (growB 4 r) (TB 4)=true:=by kernel_rfl
end L
end Mine
end
section
open PySem PySem.W PyProof.Rows
namespace Mine
namespace L
noncomputable def tOf (tab:List (List Nat × Option Nat)) (c:List Nat):Option (Option Nat):=List.rec none (fun x _ ih=>bif eqN x.1 c then some x.2 else ih) tab
noncomputable def mailB (p:Str):Bool:=and (allL (fun x=>isV ((lib.lev 7).fn 19 [rowP x.1,.str p,.lst [],.bool true]) (opP x.2)) TK) (allL (fun x=>isV ((lib.lev 7).fn 19 [rowP x.1,.str p,.lst [],.bool false]) (opP x.2)) BD)
noncomputable def ruleB:Bool:=and (allL (fun x=>isV ((lib.lev 7).fn 18 [rowP x.1]) (opP x.2)) TK) (allL (fun x=>isV ((lib.lev 7).fn 18 [rowP x.1]) (opP x.2)) BD)
theorem t_rule:ruleB=true:=by kernel_rfl
theorem t_mail0:mailB ""=true:=by kernel_rfl
theorem t_mail1:mailB "\\)"=true:=by kernel_rfl
theorem t_mail2:mailB "\"(\""=true:=by kernel_rfl
theorem t_mail3:mailB "\"\\\")\""=true:=by kernel_rfl
theorem t_mail4:mailB "\\\\"=true:=by kernel_rfl
theorem t_mail5:mailB "\\\""=true:=by kernel_rfl
end L
end Mine
end
section
open PySem PySem.W PyProof.Rows
namespace Mine
namespace L
noncomputable def toI (k:Int) (p:UInt64):Option Int:=(mulIF.f (.int k) (.flt p)).bind fun t=>(addFI.f t (.int 1)).bind fun u=>(intF.f [u]).bind PV.int?
noncomputable def frc {α:Type} (u:UInt64) (k:UInt64→α):α:=Nat.rec (motive:=fun _=>α) (k 0) (fun n _=>k (UInt64.ofNat (n+1))) u.toNat
theorem frc_is {α:Type} (u:UInt64) (k:UInt64→α):frc u k=k u:=by
 have e:UInt64.ofNat u.toNat=u:=UInt64.ofNat_toNat
 unfold frc
 revert e
 cases u.toNat with
 | zero=>exact fun e=>congrArg k e
 | succ n=>exact fun e=>congrArg k e
noncomputable def onF (o:Option PV) (k:UInt64→Bool):Bool:=onO (o.bind PV.flt?) fun u=>frc u k
noncomputable def onF3 (o:Option PV) (k:UInt64→UInt64→UInt64→Bool):Bool:=onO (o.bind PV.tup?) fun ts=>List.casesOn (motive:=fun _=>Bool) ts false fun a ts=>List.casesOn (motive:=fun _=>Bool) ts false fun b ts=>List.casesOn (motive:=fun _=>Bool) ts false fun c ts=>and ts.isEmpty (onF (some a) fun a=>onF (some b) fun b=>onF (some c) fun c=>k a b c)
theorem onF_is {o:Option PV} {k:UInt64→Bool} (h:onF o k=true):∃ u,o=some (.flt u)∧k u=true:=by
 obtain ⟨u,e,h⟩:=onO_is h
 rw [frc_is] at h
 exact onBind e fun p e1 e2=>⟨u,by rw [e1,PV.is_flt e2],h⟩
theorem onF3_is {o:Option PV} {k:UInt64→UInt64→UInt64→Bool} (h:onF3 o k=true):∃ a b c,o=some (.tup [.flt a,.flt b,.flt c])∧k a b c=true:=by
 obtain ⟨ts,e,h⟩:=onO_is h
 match ts,e,h with
 | [a,b,c],e,h =>
  obtain ⟨u,e1,h⟩:=onF_is (and_is h).2
  obtain ⟨v,e2,h⟩:=onF_is h
  obtain ⟨w,e3,h⟩:=onF_is h
  exact onBind e fun p e4 e5=>⟨u,v,w,by rw [e4,PV.is_tup e5,Option.some.inj e1,Option.some.inj e2,Option.some.inj e3],h⟩
noncomputable def wayB (Φ:Fns) (m:Int) (l p:UInt64) (li pi w:Int):Bool :=
 onF (divII.f (.int w) (.int m)) fun h=>onF3 (Φ.fn 9 [.flt h,.flt l,.flt p]) fun r g b=>onF3 (Φ.fn 11 [.flt r,.flt g,.flt b]) fun hue sh va =>
 onF (subIF.f (.int 1) (.flt hue)) fun h2=>onF3 (Φ.fn 12 [.flt h2,.flt sh,.flt va]) fun r g b=>onF3 (Φ.fn 8 [.flt r,.flt g,.flt b]) fun ac si st =>
 onO (toI (2 * m) hue) fun t1=>onO (toI (2 * m) ac) fun t2=>onO (toI 16 si) fun t3=>onO (toI 8 st) fun t4 =>
 and (and (Int.fmod (Int.fdiv t1 2) m==Int.fmod w m) (Int.fmod (Int.fdiv t2 2) m==Int.fmod (-w) m)) (and (Int.fdiv t3 2==li+1) (Int.fdiv t4 2==pi+1))
noncomputable def waysB (m:Nat) (l p:Nat):Bool:=onF (divII.f (.int (Int.ofNat l+1)) (.int 8)) fun L=>onF (divII.f (.int (Int.ofNat p+1)) (.int 4)) fun Q=>allN 13 fun i=>wayB (lib.lev 8) (Int.ofNat m) L Q (Int.ofNat l) (Int.ofNat p) (Int.ofNat i - 6)
noncomputable def dmB (m:Nat):Bool:=allN 13 fun i=>isV ((lib.lev 8).fn 7 [.int (Int.ofNat i - 6),.int (Int.ofNat m)]) (.tup [.int (Int.fdiv (Int.ofNat i - 6) (Int.ofNat m)),.int (Int.fmod (Int.ofNat i - 6) (Int.ofNat m))])
theorem t_dm:and (dmB 2) (and (dmB 3) (dmB 4))=true:=by kernel_rfl
end L
end Mine
end
section
open PySem PySem.W PyProof.Rows
namespace Mine
namespace L
noncomputable def w4B (m l:Nat):Bool:=allN 4 fun p=>waysB m l p
theorem t_w2_0:w4B 2 0=true:=by kernel_rfl
theorem t_w2_1:w4B 2 1=true:=by kernel_rfl
theorem t_w2_2:w4B 2 2=true:=by kernel_rfl
theorem t_w2_3:w4B 2 3=true:=by kernel_rfl
theorem t_w2_4:w4B 2 4=true:=by kernel_rfl
theorem t_w2_5:w4B 2 5=true:=by kernel_rfl
theorem t_w2_6:w4B 2 6=true:=by kernel_rfl
theorem t_ways2:allN 7 (fun l=>allN 4 fun p=>waysB 2 l p)=true:=by
 show and (w4B 2 6) (and (w4B 2 5) (and (w4B 2 4) (and (w4B 2 3) (and (w4B 2 2) (and (w4B 2 1) (and (w4B 2 0) true))))))=true
 rw [t_w2_0,t_w2_1,t_w2_2,t_w2_3,t_w2_4,t_w2_5,t_w2_6]; rfl
end L
end Mine
end
section
open PySem PySem.W PyProof.Rows
namespace Mine
namespace L
theorem t_w3_0:w4B 3 0=true:=by kernel_rfl
theorem t_w3_1:w4B 3 1=true:=by kernel_rfl
theorem t_w3_2:w4B 3 2=true:=by kernel_rfl
theorem t_w3_3:w4B 3 3=true:=by kernel_rfl
theorem t_w3_4:w4B 3 4=true:=by kernel_rfl
theorem t_w3_5:w4B 3 5=true:=by kernel_rfl
theorem t_w3_6:w4B 3 6=true:=by kernel_rfl
theorem t_ways3:allN 7 (fun l=>allN 4 fun p=>waysB 3 l p)=true:=by
 show and (w4B 3 6) (and (w4B 3 5) (and (w4B 3 4) (and (w4B 3 3) (and (w4B 3 2) (and (w4B 3 1) (and (w4B 3 0) true))))))=true
 rw [t_w3_0,t_w3_1,t_w3_2,t_w3_3,t_w3_4,t_w3_5,t_w3_6]; rfl
end L
end Mine
end
section
open PySem PySem.W PyProof.Rows
namespace Mine
namespace L
theorem t_w4_0:w4B 4 0=true:=by kernel_rfl
theorem t_w4_1:w4B 4 1=true:=by kernel_rfl
theorem t_w4_2:w4B 4 2=true:=by kernel_rfl
theorem t_w4_3:w4B 4 3=true:=by kernel_rfl
theorem t_w4_4:w4B 4 4=true:=by kernel_rfl
theorem t_w4_5:w4B 4 5=true:=by kernel_rfl
theorem t_w4_6:w4B 4 6=true:=by kernel_rfl
theorem t_ways4:allN 7 (fun l=>allN 4 fun p=>waysB 4 l p)=true:=by
 show and (w4B 4 6) (and (w4B 4 5) (and (w4B 4 4) (and (w4B 4 3) (and (w4B 4 2) (and (w4B 4 1) (and (w4B 4 0) true))))))=true
 rw [t_w4_0,t_w4_1,t_w4_2,t_w4_3,t_w4_4,t_w4_5,t_w4_6]; rfl
end L
end Mine
end
section
open PySem PySem.W PyProof.Rows
namespace Mine
namespace L
noncomputable def kz (s n:Nat):List Int:=Nat.rec (motive:=fun _=>List Int) [] (fun i ks=>(Int.ofNat i - Int.ofNat s)::ks) n
noncomputable def fz (g:Int→Int) (s n:Nat):List PV:=Nat.rec (motive:=fun _=>List PV) [] (fun i fs=>PV.int (g (Int.ofNat i - Int.ofNat s))::fs) n
noncomputable def sh (m:Nat) (w:Int):Int:=Int.fmod w (Int.ofNat m)
noncomputable def mr (m:Nat) (w:Int):Int:=Int.fmod (-w) (Int.ofNat m)
noncomputable def shD (m s:Nat):PV:=.dic (kz s (2 * s+1)) (fz (sh m) s (2 * s+1))
noncomputable def mrD (m s:Nat):PV:=.dic (kz s (2 * s+1)) (fz (mr m) s (2 * s+1))
noncomputable def hasC (c:List Nat):Bool:=anyL (fun x=>Nat.beq (Nat.mod x 2) 1) c
noncomputable def cl (i:Nat):List (List Nat)→List (Nat × Option Nat)
 | []=>[]
 | c::R=>bif hasC c then (i,(tOf TK c).getD none)::cl (i+1) R else cl (i+1) R
noncomputable def gp (x:Nat × Option Nat):PV:=.tup [.int (x.1:Int),opP x.2]
noncomputable def gds (l:List (Nat × Option Nat)):List (Nat × Nat):=l.filterMap fun x=>x.2.map fun g=>(x.1,g)
noncomputable def eqGs (a b:List (Nat × Nat)):Bool:=List.rec (motive:=fun _=>List (Nat × Nat)→Bool) (fun b=>List.casesOn (motive:=fun _=>Bool) b true fun _ _=>false) (fun x _ ih b=>List.casesOn (motive:=fun _=>Bool) b false fun y b=>and (and (Nat.beq x.1 y.1) (Nat.beq x.2 y.2)) (ih b)) a b
theorem eqGs_is:∀ {a b:List (Nat × Nat)},eqGs a b=true→a=b
 | [],[],_=>rfl
 | [],_::_,h=>nomatch h
 | _::_,[],h=>nomatch h
 | (x,x')::a,(y,y')::b,h=>by
  have q:=and_is (show and (and (Nat.beq x y) (Nat.beq x' y')) (eqGs a b)=true from h)
  rw [Nat.eq_of_beq_eq_true (and_is q.1).1,Nat.eq_of_beq_eq_true (and_is q.1).2,eqGs_is q.2]
noncomputable def gU (g:Gd):Nat × Nat:=(g.u,g.g)
noncomputable def gdB (Φ:Fns) (r:Nat→Slot) (m s:Nat) (e:En) (g:Gd):Bool :=
 and (and (isV ((lib.lev 7).fn 16 [hv e.h,.int (Int.ofNat g.g),.int (-1)]) (hv g.n)) (and (anyL (fun e'=>and (eqN e'.h g.n) (eqN e'.im g.mi)) (TB m)) (Nat.beq (Nat.succ (sumN g.n)) (sumN e.h))))
  (and (and (isV ((lib.lev 7).fn 15 [hv g.mi]) (.lst (mkP g.mm).reverse)) (isVs (c20k5.ev Φ (FI (upd (upd (upd r 9 (.val (.lst (mkP g.mm)))) 3 (.val (mrD m s))) 10 (.val (.int (Int.ofNat g.u)))))) (g.br.map brP)))
   (and (anyL (fun x=>and (eqN x.1 g.br) (onO x.2 fun q=>Nat.beq q g.pl)) BD) (isV ((lib.lev 7).fn 16 [hv g.mi,.int (Int.ofNat g.pl),.int 1]) (hv e.im))))
noncomputable def enB (Φ:Fns) (i:PV) (r:Nat→Slot) (m s:Nat) (e:En):Bool :=
 and (and (isV ((lib.lev 7).fn 15 [hv e.h]) (.lst (mkP e.ms))) (isVs (c20k1.ev Φ (FI (upd (upd r 9 (.val (.lst (mkP e.ms)))) 2 (.val (shD m s))))) (e.rows.map rowP)))
  (and (and (allL (fun c=>and (onO (c20k3.ifs.ev Φ (.val i::.val (rowP c)::FI r)) fun b=>b==hasC c) (or (not (hasC c)) (anyL (fun x=>eqN x.1 c) TK))) e.rows) (eqGs (gds (cl 0 e.rows)) (e.gs.map gU)))
   (and (Nat.blt 0 e.gs.length) (allL (gdB Φ r m s e) e.gs)))
noncomputable def allE (Φ:Fns) (i:PV) (r:Nat→Slot) (m s:Nat):Bool:=allL (fun e=>or (Nat.beq (sumN e.h) 0) (or (Nat.blt s (sumN e.h)) (enB Φ i r m s e))) (TB m)
noncomputable def allS (Φ:Fns) (i:PV) (r:Nat→Slot) (m:Nat):Bool:=and (and (allE Φ i r m 3) (allE Φ i r m 4)) (and (allE Φ i r m 5) (allE Φ i r m 6))
theorem t_en2 (Φ:Fns) (i:PV) (r:Nat→Slot):allS Φ i r 2=true:=by kernel_rfl
theorem t_en3 (Φ:Fns) (i:PV) (r:Nat→Slot):allS Φ i r 3=true:=by kernel_rfl
theorem t_en4 (Φ:Fns) (i:PV) (r:Nat→Slot):allS Φ i r 4=true:=by kernel_rfl
end L
end Mine
end
section
open PySem PySem.W PyProof.Rows
namespace Mine
namespace L
theorem upd_self {r:Nat→Slot} {i:Nat} {t:Slot} (h:r i=t):upd r i t=r:=funext fun j=>by
 unfold upd
 cases c:Nat.beq j i with
 | true=>rw [Nat.eq_of_beq_eq_true c]; exact h.symm
 | false=>rfl
theorem upd_i (r:Nat→Slot) (i:Nat) (t:Slot):upd r i t i=t:=by unfold upd; rw [Nat.beq_refl]; rfl
theorem upd_j {r:Nat→Slot} {i j:Nat} {t:Slot} (h:Nat.beq j i=false):upd r i t j=r j:=by unfold upd; rw [h]; rfl
theorem nbeq {j i:Nat} (h:j≠i):Nat.beq j i=false:=by
 cases c:Nat.beq j i with
 | true=>exact absurd (Nat.eq_of_beq_eq_true c) h
 | false=>rfl
theorem frU_get (r:Nat→Slot):∀ (n k i:Nat),i < n→(frU r n k)[i]?=some (r (k+i))
 | 0,_,_,h=>absurd h (Nat.not_lt_zero _)
 | n+1,k,0,_=>rfl
 | n+1,k,i+1,h=>by
  show (frU r n (Nat.succ k))[i]?=_
  rw [frU_get r n (Nat.succ k) i (Nat.lt_of_succ_lt_succ h),Nat.succ_add]; rfl
theorem frU_same (r r':Nat→Slot):∀ (n k:Nat),(∀ j,k≤j→r j=r' j)→frU r n k=frU r' n k
 | 0,_,_=>rfl
 | n+1,k,h=>by
  show r k::frU r n (Nat.succ k)=r' k::frU r' n (Nat.succ k)
  rw [h k (Nat.le_refl _),frU_same r r' n (Nat.succ k) fun j q=>h j (Nat.le_of_succ_le q)]
theorem frU_set (r:Nat→Slot) (t:Slot):∀ (n k i:Nat),i < n→(frU r n k).set i t=frU (upd r (k+i) t) n k
 | 0,_,_,h=>absurd h (Nat.not_lt_zero _)
 | n+1,k,0,_=>by
  show t::frU r n (Nat.succ k)=upd r k t k::frU (upd r k t) n (Nat.succ k)
  rw [upd_i,frU_same r (upd r k t) n (Nat.succ k) fun j q=>(upd_j (nbeq (by omega))).symm]
 | n+1,k,i+1,h=>by
  show r k::(frU r n (Nat.succ k)).set i t=upd r (k+(i+1)) t k::frU (upd r (k+(i+1)) t) n (Nat.succ k)
  rw [frU_set r t n (Nat.succ k) i (Nat.lt_of_succ_lt_succ h),show Nat.succ k+i=k+(i+1) by omega,upd_j (nbeq (by omega))]
section
variable {sc:SC} {Φ:Fns} {r:Nat→Slot} {p q:PV} {n i:Nat}
theorem FI_get (h:i < 15):(FI r)[i]?=some (r i):=by unfold FI; rw [frU_get r 15 0 i h,Nat.zero_add]
theorem FI_set {t:Slot} (h:i < 15):(FI r).set i t=FI (upd r i t):=by unfold FI; rw [frU_set r t 15 0 i h,Nat.zero_add]
theorem FW_get (h:i < 43):(FW r)[i]?=some (r i):=by unfold FW; rw [frU_get r 43 0 i h,Nat.zero_add]
theorem FW_set {t:Slot} (h:i < 43):(FW r).set i t=FW (upd r i t):=by unfold FW; rw [frU_set r t 43 0 i h,Nat.zero_add]
theorem sV {σ:List Slot} {t:Slot} (h:σ[i]?=some t) (e:t=.val p):slotV σ i=some p:=by unfold slotV; rw [h,e]; rfl
theorem sO {σ:List Slot} {t:Slot} {xs:List PV} (h:σ[i]?=some t) (e:t=.own (.l xs)):slotO σ i=some xs:=by unfold slotO slotC; rw [h,e]; rfl
theorem sD {σ:List Slot} {t:Slot} {ks:List Int} {xs:List PV} (h:σ[i]?=some t) (e:t=.own (.d ks xs)):slotD σ i=some (ks,xs):=by unfold slotD slotC; rw [h,e]; rfl
theorem sF {σ:List Slot} {t:Slot} {k:Nat} (h:σ[i]?=some t) (e:t=.fn k):slotF σ i=some k:=by unfold slotF; rw [h,e]; rfl
theorem last_ev {a:SW sc} {σ:List Slot} {xs:List PV} {k:Nat} {p1 p2 p3:Pos} (h:a.ev Φ σ=some (xs++[q])) (hz:xs.length≤1000):(SE.idx a (.una negI (.int 1 k p1) p2) p3).ev Φ σ=some q:=by
 refine bnd h ?_
 show (at? (xs++[q]).length (-1)).bind _=_
 have e:at? (xs++[q]).length (-1)=some xs.length:=by
  unfold at?
  rw [List.length_append,List.length_singleton,cond_t (sm_t (by omega) (by omega)),cond_f (decide_eq_false (by omega)),cond_t (decide_eq_true (by omega))]
  exact congrArg some (by omega)
 rw [e]
 show (xs++[q])[xs.length]?=_
 rw [List.getElem?_append_right (Nat.le_refl _),Nat.sub_self]; rfl
theorem mod_ev {a:SE sc} {b:SE sc} {σ:List Slot} {d n:Nat} {p:Pos} (h1:a.ev Φ σ=some (.int (d:Int))) (h2:b.ev Φ σ=some (.int (n:Int))) (hn:0 < n):(SE.bin modII a b p).ev Φ σ=some (.int ((d % n:Nat):Int)):=by
 have hnz:nz (n:Int)=true:=by unfold nz; rw [beq_eq_false_iff_ne.mpr (by omega)]; rfl
 refine ev2 h1 h2 ((cond_t hnz).trans ?_)
 show some (PV.int (Int.fmod (d:Int) (n:Int)))=_
 rw [Int.fmod_eq_emod_of_nonneg _ (by omega)]; rfl
theorem it_lst {x:SE sc} {σ:List Slot} {xs:List PV} (h:x.ev Φ σ=some (.lst xs)):(SI.lst x).ev Φ σ=some xs:=bnd h rfl
theorem it_enm {x:SE sc} {σ:List Slot} {xs:List PV} {p1 p:Pos} {hg:isGlob sc "enumerate"=true} (h:x.ev Φ σ=some (.lst xs)):(SI.enum x p1 p hg).ev Φ σ=some (enumL 0 xs):=bnd h rfl
theorem pick_ev {a:SW sc} {b x:SE sc} {σ:List Slot} {xs:List PV} {d:Nat} {p1 p2 p3 p4:Pos} {hg:isGlob sc lenB.x=true} (h1:a.ev Φ σ=some xs) (h2:b.ev Φ σ=some (.int (d:Int))) (h3:x.ev Φ σ=some (.lst xs)) (hz:xs.length≤1000) (hq:xs[d % xs.length]?=some q):(SE.idx a (.bin modII b (.bi lenB [x] p1 p2 hg) p3) p4).ev Φ σ=some q:=by
 have hl:=(List.getElem?_eq_some_iff.mp hq).1
 have hn:0 < xs.length:=by omega
 have hlen:(SE.bi lenB [x] p1 p2 hg).ev Φ σ=some (.int xs.length):=bnd (evL1 h3) (len_lst (by omega))
 exact ev_idx h1 (mod_ev h2 hlen hn) (by omega) hq
theorem fst_ev {x:SE sc} {σ:List Slot} {a b:PV} {k:Nat} {p1 p2:Pos} (h:x.ev Φ σ=some (.tup [a,b])):(SE.idxT x (.int 0 k p1) p2).ev Φ σ=some a:=bnd h rfl
theorem snd_ev {x:SE sc} {σ:List Slot} {a b:PV} {k:Nat} {p1 p2:Pos} (h:x.ev Φ σ=some (.tup [a,b])):(SE.idxT x (.int 1 k p1) p2).ev Φ σ=some b:=bnd h rfl
theorem app_ex {σ:List Slot} {xs:List PV} {x:Str} {v:SE sc} {p ap pos pos':Pos} {hm:isVar sc i x=true} {hl:(ap.endLine==pos.line)=true} (h1:slotO σ i=some xs) (h2:v.ev Φ σ=some q) (hz:xs.length≤1000):(SS.app i x p ap pos pos' v hm hl).ex Φ σ=some (.next (σ.set i (.own (.l (xs++[q]))))):=bnd h1 (bnd h2 (cond_t (fits_t (by omega))))
end
structure XOk (Φ:Fns):Prop where
 fn:∀ f ps,Φ.fn f ps=(lib.lev 7).fn f ps
 take:∀ x∈TK,Φ.x 0 [rowP x.1]=some (opP x.2)
 build:∀ x∈BD,Φ.x 1 [rowP x.1]=some (opP x.2)
structure GdOk (Φ:Fns) (m s:Nat) (e:En) (g:Gd):Prop where
 ch:(lib.lev 7).fn 16 [hv e.h,.int (g.g:Int),.int (-1)]=some (hv g.n)
 en:∃ e'∈TB m,(e'.h=g.n∧e'.im=g.mi)∧sumN e'.h+1=sumN e.h
 mks:(lib.lev 7).fn 15 [hv g.mi]=some (.lst (mkP g.mm).reverse)
 row:∀ r:Nat→Slot,r 9=.val (.lst (mkP g.mm))→r 3=.val (mrD m s)→r 10=.val (.int (g.u:Int))→c20k5.ev Φ (FI r)=some (g.br.map brP)
 bd:∃ x∈BD,x.1=g.br∧x.2=some g.pl
 im:(lib.lev 7).fn 16 [hv g.mi,.int (g.pl:Int),.int 1]=some (hv e.im)
structure EnOk (Φ:Fns) (m s:Nat) (e:En):Prop where
 mks:(lib.lev 7).fn 15 [hv e.h]=some (.lst (mkP e.ms))
 rows:∀ r:Nat→Slot,r 9=.val (.lst (mkP e.ms))→r 2=.val (shD m s)→c20k1.ev Φ (FI r)=some (e.rows.map rowP)
 ifs:∀ (i:PV) (r:Nat→Slot),∀ c∈e.rows,c20k3.ifs.ev Φ (.val i::.val (rowP c)::FI r)=some (hasC c)
 tk:∀ c∈e.rows,hasC c=true→∃ x∈TK,x.1=c
 gs:gds (cl 0 e.rows)=e.gs.map gU
 ne:0 < e.gs.length
 good:∀ g∈e.gs,GdOk Φ m s e g
theorem gd_is {Φ:Fns} {m s:Nat} {e:En} {g:Gd} (h:∀ r,gdB Φ r m s e g=true):GdOk Φ m s e g:=by
 have q:=h fun _=>.unset
 unfold gdB at q
 obtain ⟨⟨q1,q2,q3⟩,⟨q4,q5⟩,q6,q7⟩:((_∧_∧_)∧(_∧_)∧_∧_):=⟨⟨(and_is (and_is q).1).1,(and_is (and_is (and_is q).1).2).1,(and_is (and_is (and_is q).1).2).2⟩,⟨(and_is (and_is (and_is q).2).1).1,(and_is (and_is (and_is q).2).1).2⟩,(and_is (and_is (and_is q).2).2).1,(and_is (and_is (and_is q).2).2).2⟩
 obtain ⟨e',m1,m2⟩:=anyL_is q2
 obtain ⟨x,b1,b2⟩:=anyL_is q6
 obtain ⟨pl,b3,b4⟩:=onO_is (and_is b2).2
 have h1:=eqN_is (and_is m2).1
 refine ⟨isV_is q1,⟨e',m1,⟨h1,eqN_is (and_is m2).2⟩,by rw [h1]; exact Nat.eq_of_beq_eq_true q3⟩,isV_is q4,fun r r9 r3 r10=>?_,⟨x,b1,eqN_is (and_is b2).1,by rw [b3,Nat.eq_of_beq_eq_true b4]⟩,isV_is q7⟩
 have q:=h r
 unfold gdB at q
 have q:=isVs_is (and_is (and_is (and_is q).2).1).2
 rw [upd_self r9,upd_self r3] at q
 have q':upd r 10 (.val (.int (Int.ofNat g.u)))=r:=upd_self r10
 rw [q'] at q
 exact q
theorem en_is {Φ:Fns} {m s:Nat} {e:En} (h:∀ i r,enB Φ i r m s e=true):EnOk Φ m s e:=by
 have q:=h .none fun _=>.unset
 unfold enB at q
 obtain ⟨q1,q2⟩:=and_is q
 obtain ⟨q3,q4⟩:=and_is q1
 obtain ⟨q5,q6⟩:=and_is q2
 refine ⟨isV_is q3,fun r r9 r2=>?_,fun i r c mc=>?_,fun c mc hc=>?_,eqGs_is (and_is q5).2,Nat.blt_eq.mp (and_is q6).1,fun g mg=>gd_is fun r=>?_⟩
 ·have q:=h .none r
  unfold enB at q
  have q:=isVs_is (and_is (and_is q).1).2
  rw [upd_self r9,upd_self r2] at q
  exact q
 ·have q:=h i r
  unfold enB at q
  obtain ⟨b,e1,e2⟩:=onO_is (and_is (allL_is (and_is (and_is (and_is q).2).1).1 c mc)).1
  rw [e1,eq_of_beq e2]
 ·have q:=(and_is (allL_is (and_is q5).1 c mc)).2
  rw [hc] at q
  obtain ⟨x,m1,m2⟩:=anyL_is (show anyL (fun x=>eqN x.1 c) TK=true from q)
  exact ⟨x,m1,eqN_is m2⟩
 ·have q:=h .none r
  unfold enB at q
  exact allL_is (and_is (and_is (and_is q).2).2).2 g mg
end L
end Mine
end
section
open PySem PySem.W PyProof.Rows
namespace Mine
namespace L
theorem eqN_self:∀ a:List Nat,eqN a a=true
 | []=>rfl
 | x::a=>by
  show and (Nat.beq x x) (eqN a a)=true
  rw [Nat.beq_refl,eqN_self a]; rfl
theorem tOf_of {c:List Nat}:∀ {tab:List (List Nat × Option Nat)},(∃ x∈tab,x.1=c)→∃ x∈tab,x.1=c∧tOf tab c=some x.2
 | [],h=>by obtain ⟨_,m,_⟩:=h; exact nomatch m
 | y::tab,h=>by
  cases e:eqN y.1 c with
  | true=>exact ⟨y,List.mem_cons_self,eqN_is e,cond_t e⟩
  | false =>
   obtain ⟨x,m,hx⟩:=h
   rcases List.mem_cons.mp m with rfl | m
   ·rw [hx,eqN_self] at e; exact nomatch e
   ·obtain ⟨z,m',h1,h2⟩:=tOf_of (tab:=tab) ⟨x,m,hx⟩
    exact ⟨z,List.mem_cons_of_mem _ m',h1,(cond_f e).trans h2⟩
section
variable {Φ:Fns} {r:Nat→Slot} {m s:Nat} {e:En}
theorem cf_ev {sc:SC} {σ:List Slot} {i k:Nat} {x:Str} {a:SE sc} {p1 p:Pos} {hm:isVar sc i x=true} {u v:PV} (h1:slotF σ i=some k) (h2:a.ev Φ σ=some u) (h3:Φ.x k [u]=some v):(SE.callF i x [a] p1 p hm).ev Φ σ=some v:=bnd h1 (bnd (evL1 h2) h3)
theorem goods1 (X:XOk Φ) (h4:r 4=.fn 0):∀ (R:List (List Nat)) (i:Nat),(∀ (i:PV),∀ c∈R,c20k3.ifs.ev Φ (.val i::.val (rowP c)::FI r)=some (hasC c))→(∀ c∈R,hasC c=true→∃ x∈TK,x.1=c) →
  compGo c20k3.tg c20k3.ifs c20k3.elt 2 Φ (FI r) (enumL i (R.map rowP))=some ((cl i R).map gp)
 | [],_,_,_=>rfl
 | c::R,i,hif,htk=>by
  have ih:=goods1 X h4 R (i+1) (fun j c q=>hif j c (List.mem_cons_of_mem _ q)) fun c q=>htk c (List.mem_cons_of_mem _ q)
  show (c20k3.ifs.ev Φ (.val (.int i)::.val (rowP c)::FI r)).bind (fun b=>bif b then (c20k3.elt.ev Φ (.val (.int i)::.val (rowP c)::FI r)).bind fun y=>(compGo c20k3.tg c20k3.ifs c20k3.elt 2 Φ (FI r) (enumL (i+1) (R.map rowP))).map (y::·) else compGo c20k3.tg c20k3.ifs c20k3.elt 2 Φ (FI r) (enumL (i+1) (R.map rowP)))=some ((bif hasC c then (i,(tOf TK c).getD none)::cl (i+1) R else cl (i+1) R).map gp)
  rw [hif _ c List.mem_cons_self,ih]
  cases hc:hasC c with
  | false=>rfl
  | true =>
   obtain ⟨x,mx,h1,h2⟩:=tOf_of (htk c List.mem_cons_self hc)
   have he:c20k3.elt.ev Φ (.val (.int i)::.val (rowP c)::FI r)=some (gp (i,x.2)):=by
    refine ev_tup (evL2 (x:=.int (i:Int)) (y:=opP x.2) rfl (cf_ev (hm:=by kernel_rfl) (k:=0) (u:=rowP c) (sF (t:=r 4) ?_ h4) rfl (h1▸X.take x mx))) (by show 2≤1000000; omega)
    exact FI_get (r:=r) (i:=4) (by omega)
   rw [he,h2]; rfl
noncomputable def pairP (x:Nat × Nat):PV:=.tup [.int (x.1:Int),.int (x.2:Int)]
theorem goods2 (r:Nat→Slot):∀ (l:List (Nat × Option Nat)),compGo c20k4.tg c20k4.ifs c20k4.elt 1 Φ (FI r) (l.map gp)=some ((gds l).map pairP)
 | []=>rfl
 | (i,none)::l=>by
  have ih:=goods2 r l
  show compGo c20k4.tg c20k4.ifs c20k4.elt 1 Φ (FI r) (l.map gp)=_
  rw [ih]; rfl
 | (i,some g)::l=>by
  have ih:=goods2 r l
  show (compGo c20k4.tg c20k4.ifs c20k4.elt 1 Φ (FI r) (l.map gp)).map (pairP (i,g)::·)=_
  rw [ih]; rfl
theorem ne_nil {xs:List PV} (h:0 < xs.length):eqD.f (.lst xs) (.lst [])=some false:=by
 cases xs with
 | nil=>exact absurd h (Nat.lt_irrefl 0)
 | cons x xs=>rfl
theorem upd_twice {r:Nat→Slot} {i:Nat} {t u:Slot}:upd (upd r i t) i u=upd r i u:=funext fun j=>by
 unfold upd
 cases Nat.beq j i <;> rfl
theorem down {St Hs:List PV} {d:Nat} (X:XOk Φ) (E:EnOk Φ m s e) (h2:r 2=.val (shD m s)) (h4:r 4=.fn 0) (h6:r 6=.own (.l (St++[hv e.h]))) (h7:r 7=.own (.l Hs)) (h8:r 8=.val (.int (d:Int))) (hs:St.length≤100) (hh:Hs.length≤100) (hl:e.rows.length≤100∧e.gs.length≤100) (hc:(cl 0 e.rows).length≤100) :
  ∃ g∈e.gs,∃ a b c,c20b0.ex Φ (FI r)=some (.next (FI (upd (upd (upd (upd (upd r 9 a) 12 b) 13 c) 7 (.own (.l (Hs++[.int (g.u:Int)])))) 6 (.own (.l (St++[hv e.h]++[hv g.n])))))):=by
 have gj:d % e.gs.length < e.gs.length:=Nat.mod_lt _ E.ne
 have hxs:∀ {n:Nat},n=((e.gs.map gU).map pairP).length→((e.gs.map gU).map pairP)[d % n]?=some (pairP (gU e.gs[d % e.gs.length])):=fun q=>by
  rw [q,List.length_map,List.length_map,List.getElem?_map,List.getElem?_map,List.getElem?_eq_getElem gj]; rfl
 have hxl:((e.gs.map gU).map pairP).length≤1000:=by rw [List.length_map,List.length_map]; omega
 refine ⟨e.gs[d % e.gs.length],List.getElem_mem gj,.val (.lst (mkP e.ms)),.val (.lst (e.rows.map rowP)),.val (.lst ((e.gs.map gU).map pairP)),?_⟩
 have G:=E.good _ (List.getElem_mem gj)
 revert hxs G
 generalize e.gs[d % e.gs.length]=g
 intro hxs G
 have w1:∀ {r:Nat→Slot} {p1 p2 p3 p4:Pos} {hm:isVar (D20.sc nm) 6 "stages"=true},r 6=.own (.l (St++[hv e.h]))→(SE.idx (SW.own (sc:=D20.sc nm) 6 "stages" p1 hm) (.una negI (.int 1 0 p2) p3) p4).ev Φ (FI r)=some (hv e.h):=fun h=>last_ev (sO (FI_get (by decide)) h) (by omega)
 refine seqN (σ':=FI (upd r 9 (.val (.lst (mkP e.ms))))) ?_ ?_
 ·exact (mp (bnd (evL1 (w1 h6)) ((X.fn _ _).trans E.mks))).trans (congrArg (fun z=>some (Out.next z)) (FI_set (by decide)))
 refine seqN (σ':=FI (upd (upd r 9 (.val (.lst (mkP e.ms)))) 12 (.val (.lst (e.rows.map rowP))))) ?_ ?_
 ·exact (mp (E.rows _ (upd_i _ _ _) ((upd_j rfl).trans h2))).trans (congrArg (fun z=>some (Out.next z)) (FI_set (by decide)))
 refine seqN (σ':=FI (upd (upd (upd r 9 (.val (.lst (mkP e.ms)))) 12 (.val (.lst (e.rows.map rowP)))) 13 (.val (.lst ((cl 0 e.rows).map gp))))) ?_ ?_
 ·refine (mp (cp_ev (xs:=enumL 0 (e.rows.map rowP)) ?_ (goods1 X ((upd_j rfl).trans ((upd_j rfl).trans h4)) e.rows 0 (fun i c q=>E.ifs i _ c q) E.tk) (by rw [List.length_map]; omega))).trans (congrArg (fun z=>some (Out.next z)) (FI_set (by decide)))
  exact it_enm (hg:=by kernel_rfl) (sV (FI_get (r:=upd (upd r 9 (.val (.lst (mkP e.ms)))) 12 (.val (.lst (e.rows.map rowP)))) (i:=12) (by decide)) (upd_i _ _ _))
 have k3:c20k4.ev Φ (FI (upd (upd (upd r 9 (.val (.lst (mkP e.ms)))) 12 (.val (.lst (e.rows.map rowP)))) 13 (.val (.lst ((cl 0 e.rows).map gp)))))=some ((e.gs.map gU).map pairP):=by
  rw [← E.gs]
  exact cp_ev (xs:=(cl 0 e.rows).map gp) (it_lst (sV (FI_get (r:=upd (upd (upd r 9 (.val (.lst (mkP e.ms)))) 12 (.val (.lst (e.rows.map rowP)))) 13 (.val (.lst ((cl 0 e.rows).map gp)))) (i:=13) (by decide)) (upd_i _ _ _))) (goods2 _ _) (by rw [E.gs]; omega)
 refine seqN (σ':=FI (upd (upd (upd (upd r 9 (.val (.lst (mkP e.ms)))) 12 (.val (.lst (e.rows.map rowP)))) 13 (.val (.lst ((cl 0 e.rows).map gp)))) 13 (.val (.lst ((e.gs.map gU).map pairP))))) ((mp k3).trans (congrArg (fun z=>some (Out.next z)) (FI_set (by decide)))) ?_
 rw [upd_twice]
 have g13:upd (upd (upd r 9 (.val (.lst (mkP e.ms)))) 12 (.val (.lst (e.rows.map rowP)))) 13 (.val (.lst ((e.gs.map gU).map pairP))) 13=.val (.lst ((e.gs.map gU).map pairP)):=upd_i _ _ _
 refine seqN (iteN (k:=false) (evc (x:=.lst ((e.gs.map gU).map pairP)) (y:=.lst []) (sV (FI_get (by decide)) g13) rfl (ne_nil (by rw [List.length_map,List.length_map]; exact E.ne))) rfl) ?_
 refine seqN (σ':=FI (upd (upd (upd (upd r 9 (.val (.lst (mkP e.ms)))) 12 (.val (.lst (e.rows.map rowP)))) 13 (.val (.lst ((e.gs.map gU).map pairP)))) 7 (.own (.l (Hs++[.int (g.u:Int)]))))) ?_ ?_
 ·refine (app_ex (hm:=by kernel_rfl) (hl:=by kernel_rfl) (sO (FI_get (by decide)) ((upd_j rfl).trans ((upd_j rfl).trans ((upd_j rfl).trans h7)))) (fst_ev (a:=.int (g.u:Int)) (b:=.int (g.g:Int)) (pick_ev (hg:=by kernel_rfl) (d:=d) (xs:=(e.gs.map gU).map pairP) (ev_of (sV (FI_get (by decide)) g13)) (sV (FI_get (by decide)) ((upd_j rfl).trans ((upd_j rfl).trans ((upd_j rfl).trans h8)))) (sV (FI_get (by decide)) g13) hxl (hxs rfl))) (by omega)).trans (congrArg (fun z=>some (Out.next z)) (FI_set (by decide)))
 refine seqN (σ':=FI (upd (upd (upd (upd (upd r 9 (.val (.lst (mkP e.ms)))) 12 (.val (.lst (e.rows.map rowP)))) 13 (.val (.lst ((e.gs.map gU).map pairP)))) 7 (.own (.l (Hs++[.int (g.u:Int)])))) 6 (.own (.l (St++[hv e.h]++[hv g.n]))))) ?_ rfl
 have g6:upd (upd (upd (upd r 9 (.val (.lst (mkP e.ms)))) 12 (.val (.lst (e.rows.map rowP)))) 13 (.val (.lst ((e.gs.map gU).map pairP)))) 7 (.own (.l (Hs++[.int (g.u:Int)]))) 6=.own (.l (St++[hv e.h])):=(upd_j rfl).trans ((upd_j rfl).trans ((upd_j rfl).trans ((upd_j rfl).trans h6)))
 have g13':upd (upd (upd (upd r 9 (.val (.lst (mkP e.ms)))) 12 (.val (.lst (e.rows.map rowP)))) 13 (.val (.lst ((e.gs.map gU).map pairP)))) 7 (.own (.l (Hs++[.int (g.u:Int)]))) 13=.val (.lst ((e.gs.map gU).map pairP)):=(upd_j rfl).trans g13
 refine (app_ex (hm:=by kernel_rfl) (hl:=by kernel_rfl) (sO (FI_get (by decide)) g6) (bnd (evL3 (x:=hv e.h) (y:=.int (g.g:Int)) (z:=.int (-1)) (w1 g6) (snd_ev (a:=.int (g.u:Int)) (b:=.int (g.g:Int)) (pick_ev (hg:=by kernel_rfl) (d:=d) (xs:=(e.gs.map gU).map pairP) (ev_of (sV (FI_get (by decide)) g13')) (sV (FI_get (by decide)) ((upd_j rfl).trans ((upd_j rfl).trans ((upd_j rfl).trans ((upd_j rfl).trans h8))))) (sV (FI_get (by decide)) g13') hxl (hxs rfl))) rfl) ((X.fn _ _).trans G.ch)) (by rw [List.length_append,List.length_singleton]; omega)).trans (congrArg (fun z=>some (Out.next z)) (FI_set (by decide)))
end
end L
end Mine
end
section
open PySem PySem.W PyProof.Rows
namespace Mine
namespace L
def Run (bind:PV→List Slot→Option (List Slot)) (f:List Slot→Option Out):List PV→List Slot→List Slot→Prop
 | [],σ,σ'=>σ=σ'
 | x::xs,σ,σ'=>∃ σ₁ σ₂,(bind x σ=some σ₁∧f σ₁=some (.next σ₂))∧Run bind f xs σ₂ σ'
section
variable {bind:PV→List Slot→Option (List Slot)} {f:List Slot→Option Out} {σ σ' σ'':List Slot}
theorem Run.go:∀ {xs:List PV} {σ:List Slot},Run bind f xs σ σ'→loopGo bind f xs σ=some (.next σ')
 | [],_,h=>by obtain rfl:=(show _=_ from h); rfl
 | _::_,_,h=>by obtain ⟨σ₁,σ₂,⟨h1,h2⟩,h3⟩:=h; exact (loop_next h1 h2).trans (Run.go h3)
theorem Run.app {ys:List PV} (k:Run bind f ys σ' σ''):∀ {xs:List PV} {σ:List Slot},Run bind f xs σ σ'→Run bind f (xs++ys) σ σ''
 | [],_,h=>by obtain rfl:=(show _=_ from h); exact k
 | _::_,_,h=>by obtain ⟨σ₁,σ₂,h1,h3⟩:=h; exact ⟨σ₁,σ₂,h1,Run.app k h3⟩
theorem Run.one {x:PV} {σ₁:List Slot} (h1:bind x σ=some σ₁) (h2:f σ₁=some (.next σ')):Run bind f [x] σ σ':=⟨σ₁,σ',⟨h1,h2⟩,rfl⟩
end
noncomputable def plainB (m:Nat):Bool:=allL (fun e=>and (or (not (Nat.beq (sumN e.h) 0)) (and (eqN e.h []) (eqN e.im []))) (and (and (Nat.ble e.rows.length 100) (Nat.ble e.gs.length 100)) (and (Nat.ble (cl 0 e.rows).length 100) (and (Nat.beq (sumN e.im) (sumN e.h)) (and (allL (fun g=>Nat.ble g.mm.length 100) e.gs) (anyL (fun e'=>and (eqN e'.h e.im) (eqN e'.im e.h)) (TB m))))))) (TB m)
theorem t_plain:and (plainB 2) (and (plainB 3) (plainB 4))=true:=by kernel_rfl
def Few (m:Nat):Prop:=m=2∨m=3∨m=4
structure Plain (m:Nat) (e:En):Prop where
 nil:sumN e.h=0→e.h=[]∧e.im=[]
 l1:e.rows.length≤100∧e.gs.length≤100
 l2:(cl 0 e.rows).length≤100
 sum:sumN e.im=sumN e.h
 l3:∀ g∈e.gs,g.mm.length≤100
 back:∃ e'∈TB m,e'.h=e.im∧e'.im=e.h
theorem plain {m:Nat} (hm:Few m) {e:En} (he:e∈TB m):Plain m e:=by
 have q:plainB m=true:=by
  have q:=and_is t_plain
  rcases hm with rfl | rfl | rfl
  ·exact q.1
  ·exact (and_is q.2).1
  ·exact (and_is q.2).2
 have q:=and_is (allL_is q e he)
 obtain ⟨q1,q2⟩:=and_is q.2
 obtain ⟨q3,q4⟩:=and_is q2
 obtain ⟨q5,q6⟩:=and_is q4
 obtain ⟨q7,q6⟩:=and_is q6
 obtain ⟨e',m1,m2⟩:=anyL_is q6
 refine ⟨fun h=>?_,⟨Nat.ble_eq.mp (and_is q1).1,Nat.ble_eq.mp (and_is q1).2⟩,Nat.ble_eq.mp q3,Nat.eq_of_beq_eq_true q5,fun g mg=>Nat.ble_eq.mp (allL_is q7 g mg),e',m1,eqN_is (and_is m2).1,eqN_is (and_is m2).2⟩
 have q:=q.1
 rw [h] at q
 have q:=and_is (show and (eqN e.h []) (eqN e.im [])=true from q)
 exact ⟨eqN_is q.1,eqN_is q.2⟩
theorem en_at {m s:Nat} (hm:Few m) (hs:3≤s∧s≤6) (Φ:Fns) {e:En} (he:e∈TB m) (h0:sumN e.h≠0) (h1:sumN e.h≤s):EnOk Φ m s e:=en_is fun i r=>by
 have q:allS Φ i r m=true:=by
  rcases hm with rfl | rfl | rfl
  ·exact t_en2 Φ i r
  ·exact t_en3 Φ i r
  ·exact t_en4 Φ i r
 have q:=and_is q
 have q:allE Φ i r m s=true:=by
  have:s=3∨s=4∨s=5∨s=6:=by omega
  rcases this with rfl | rfl | rfl | rfl
  ·exact (and_is q.1).1
  ·exact (and_is q.1).2
  ·exact (and_is q.2).1
  ·exact (and_is q.2).2
 have q:=allL_is q e he
 rw [nbeq h0,show Nat.blt s (sumN e.h)=false by
  cases c:Nat.blt s (sumN e.h) with
  | true=>exact absurd (Nat.blt_eq.mp c) (by omega)
  | false=>rfl] at q
 exact q
def Path (m:Nat):En→List (Nat × En)→Prop
 | e,[]=>e.h=[]
 | e,(u,e')::r=>(∃ g∈e.gs,g.u=u∧g.n=e'.h∧g.mi=e'.im)∧(e'∈TB m∧sumN e'.h+1=sumN e.h)∧Path m e' r
section
variable {Φ:Fns} {m s:Nat}
noncomputable abbrev dBind:=(tg1 (sc:=D20.sc nm) ⟨8,"pick",(qz 313 8 12)⟩).bind
noncomputable abbrev uBind:=(tg1 (sc:=D20.sc nm) ⟨10,"hue",(qz 323 8 11)⟩).bind
theorem down_loop (X:XOk Φ) (hm:Few m) (hs:3≤s∧s≤6):∀ (ds:List Nat) (e:En) (r:Nat→Slot) (St Hs:List PV),e∈TB m→sumN e.h=ds.length→ds.length+St.length≤50→ds.length+Hs.length≤50→ds.length≤s→r 2=.val (shD m s)→r 4=.fn 0→r 6=.own (.l (St++[hv e.h]))→r 7=.own (.l Hs) →
  ∃ path r',(Path m e path∧path.length=ds.length)∧Run dBind (c20b0.ex Φ) (nv ds) (FI r) (FI r')∧r' 6=.own (.l (St++[hv e.h]++path.map fun x=>hv x.2.h))∧r' 7=.own (.l (Hs++path.map fun x=>.int (x.1:Int)))∧∀ j,j < 6→r' j=r j
 | [],e,r,St,Hs,he,hsum,_,_,_,h2,h4,h6,h7=>⟨[],r,⟨((plain hm he).nil hsum).1,rfl⟩,rfl,by rw [h6,List.map_nil,List.append_nil],by rw [h7,List.map_nil,List.append_nil],fun _ _=>rfl⟩
 | d::ds,e,r,St,Hs,he,hsum,z1,z2,z3,h2,h4,h6,h7=>by
  rw [List.length_cons] at hsum z1 z2 z3
  have P:=plain hm he
  have E:=en_at hm hs Φ he (by omega) (by omega)
  obtain ⟨g,mg,a,b,c,e1⟩:=down (r:=upd r 8 (.val (.int (d:Int)))) (St:=St) (Hs:=Hs) (d:=d) X E ((upd_j rfl).trans h2) ((upd_j rfl).trans h4) ((upd_j rfl).trans h6) ((upd_j rfl).trans h7) (upd_i _ _ _) (by omega) (by omega) P.l1 P.l2
  obtain ⟨e',me',⟨q1,q2⟩,q3⟩:=(E.good g mg).en
  rw [← q1] at e1
  obtain ⟨path,r',⟨p1,p2⟩,p3,p4,p5,p6⟩:=down_loop X hm hs ds e' (upd (upd (upd (upd (upd (upd r 8 (.val (.int (d:Int)))) 9 a) 12 b) 13 c) 7 (.own (.l (Hs++[.int (g.u:Int)])))) 6 (.own (.l (St++[hv e.h]++[hv e'.h])))) (St++[hv e.h]) (Hs++[.int (g.u:Int)]) me' (by omega) (by rw [List.length_append,List.length_singleton]; omega) (by rw [List.length_append,List.length_singleton]; omega) (by omega)
   ((upd_j rfl).trans ((upd_j rfl).trans ((upd_j rfl).trans ((upd_j rfl).trans ((upd_j rfl).trans ((upd_j rfl).trans h2)))))) ((upd_j rfl).trans ((upd_j rfl).trans ((upd_j rfl).trans ((upd_j rfl).trans ((upd_j rfl).trans ((upd_j rfl).trans h4)))))) (upd_i _ _ _) ((upd_j rfl).trans (upd_i _ _ _))
  refine ⟨(g.u,e')::path,r',⟨⟨⟨g,mg,rfl,q1.symm,q2.symm⟩,⟨me',q3⟩,p1⟩,by rw [List.length_cons,List.length_cons,p2]⟩,⟨_,_,⟨congrArg some (FI_set (by decide)),e1⟩,p3⟩,?_,?_,fun j hj=>(p6 j hj).trans ?_⟩
  ·rw [p4,List.map_cons,List.append_assoc]; rfl
  ·rw [p5,List.map_cons,List.append_assoc]; rfl
  ·exact (upd_j (nbeq (by omega))).trans ((upd_j (nbeq (by omega))).trans ((upd_j (nbeq (by omega))).trans ((upd_j (nbeq (by omega))).trans ((upd_j (nbeq (by omega))).trans (upd_j (nbeq (by omega)))))))
theorem rev_ev {sc:SC} {a:SW sc} {σ:List Slot} {xs:List PV} {k:Nat} {p1 p2 p3 p:Pos} (h:a.ev Φ σ=some xs) (hz:xs.length≤1000):(SE.rev a k p1 p2 p3 p).ev Φ σ=some (.lst xs.reverse):=bnd h (cond_t (fits_t (by omega)))
theorem up {r:Nat→Slot} {e:En} {g:Gd} (X:XOk Φ) (G:GdOk Φ m s e g) (hz:g.mm.length≤100) (h3:r 3=.val (mrD m s)) (h5:r 5=.fn 1) (h10:r 10=.val (.int (g.u:Int))) (h14:r 14=.val (hv g.mi)):∃ a b,c20b1.ex Φ (FI r)=some (.next (FI (upd (upd (upd r 9 a) 11 b) 14 (.val (hv e.im))))):=by
 obtain ⟨x,mx,x1,x2⟩:=G.bd
 refine ⟨.val (.lst (mkP g.mm)),.val (.int (g.pl:Int)),?_⟩
 refine seqN (σ':=FI (upd r 9 (.val (.lst (mkP g.mm))))) ?_ ?_
 ·refine (mp (a:=PV.lst (mkP g.mm)) ?_).trans (congrArg (fun z=>some (Out.next z)) (FI_set (by decide)))
  refine (rev_ev (ev_of (bnd (evL1 (sV (FI_get (by decide)) h14)) ((X.fn _ _).trans G.mks))) ?_).trans ?_
  ·rw [List.length_reverse]; unfold mkP; rw [List.length_map]; omega
  ·rw [List.reverse_reverse]
 refine seqN (σ':=FI (upd (upd r 9 (.val (.lst (mkP g.mm)))) 11 (.val (.int (g.pl:Int))))) ?_ ?_
 ·refine (mp (a:=PV.int (g.pl:Int)) ?_).trans (congrArg (fun z=>some (Out.next z)) (FI_set (by decide)))
  refine cf_ev (hm:=by kernel_rfl) (k:=1) (u:=rowP g.br) (sF (FI_get (by decide)) ((upd_j rfl).trans h5)) (ev_comp (G.row _ (upd_i _ _ _) ((upd_j rfl).trans h3) ((upd_j rfl).trans h10))) ?_
  have q:=X.build x mx
  rw [x1,x2] at q
  exact q
 have g11:upd (upd r 9 (.val (.lst (mkP g.mm)))) 11 (.val (.int (g.pl:Int))) 11=.val (.int (g.pl:Int)):=upd_i _ _ _
 refine seqN (iteN (k:=false) (evc (x:=.int (g.pl:Int)) (y:=.none) (sV (FI_get (by decide)) g11) rfl rfl) rfl) ?_
 refine seqN (σ':=FI (upd (upd (upd r 9 (.val (.lst (mkP g.mm)))) 11 (.val (.int (g.pl:Int)))) 14 (.val (hv e.im)))) ?_ rfl
 exact (mp (bnd (evL3 (sV (FI_get (by decide)) ((upd_j rfl).trans ((upd_j rfl).trans h14))) (sV (FI_get (by decide)) g11) rfl) ((X.fn _ _).trans G.im))).trans (congrArg (fun z=>some (Out.next z)) (FI_set (by decide)))
theorem up_loop (X:XOk Φ) (hm:Few m) (hs:3≤s∧s≤6):∀ (path:List (Nat × En)) (e:En) (r:Nat→Slot),e∈TB m→sumN e.h≤s→Path m e path→r 3=.val (mrD m s)→r 5=.fn 1→r 14=.val (hv []) →
  ∃ r',Run uBind (c20b1.ex Φ) (path.map fun x=>PV.int (x.1:Int)).reverse (FI r) (FI r')∧r' 14=.val (hv e.im)∧∀ j,j < 9→r' j=r j
 | [],e,r,he,hz,p,h3,h5,h14=>⟨r,rfl,by
  have q:=(plain hm he).nil (by rw [show e.h=[] from p]; rfl)
  rw [h14,q.2],fun _ _=>rfl⟩
 | (u,e')::path,e,r,he,hz,p,h3,h5,h14=>by
  obtain ⟨⟨g,mg,g1,g2,g3⟩,⟨me',q3⟩,p'⟩:=p
  have E:=en_at hm hs Φ he (by omega) hz
  obtain ⟨r₁,k1,k2,k3⟩:=up_loop X hm hs path e' r me' (by omega) p' h3 h5 h14
  obtain ⟨a,b,e1⟩:=up (r:=upd r₁ 10 (.val (.int (g.u:Int)))) X (E.good g mg) ((plain hm he).l3 g mg) ((upd_j rfl).trans ((k3 3 (by omega)).trans h3)) ((upd_j rfl).trans ((k3 5 (by omega)).trans h5)) (upd_i _ _ _) ((upd_j rfl).trans (by rw [k2,g3]))
  refine ⟨upd (upd (upd (upd r₁ 10 (.val (.int (g.u:Int)))) 9 a) 11 b) 14 (.val (hv e.im)),?_,upd_i _ _ _,fun j hj=>(?_:_=_).trans (k3 j hj)⟩
  ·rw [List.map_cons,List.reverse_cons]
   refine Run.app (Run.one (σ₁:=FI (upd r₁ 10 (.val (.int (g.u:Int))))) ?_ e1) k1
   rw [g1]
   exact congrArg some (FI_set (by decide))
  ·exact (upd_j (nbeq (by omega))).trans ((upd_j (nbeq (by omega))).trans ((upd_j (nbeq (by omega))).trans (upd_j (nbeq (by omega)))))
theorem for_ex {sc:SC} {tg:SP sc} {it:SI sc} {body:SL sc} {pos:Pos} {h:(tg.ts.all (Tg.ok sc)&&(!it.need || tg.tp))=true} {σ:List Slot} {xs:List PV} {o:Option Out} (e:it.ev Φ σ=some xs) (l:loopGo tg.bind (body.ex Φ) xs σ=o):(SS.for tg it body pos h).ex Φ σ=o:=bnd e l
theorem img0 (Φ:Fns) (r:Nat→Slot):c20s2.ex Φ (FI r)=some (.next (FI (upd r 14 (.val (hv []))))):=by kernel_rfl
theorem image_fn (X:XOk Φ) (hm:Few m) (hs:3≤s∧s≤6) {e:En} (he:e∈TB m) (hz:sumN e.h=s) {ds:List Nat} (hd:ds.length=s) :
  ∃ path,Path m e path∧path.length=s∧hiEv D20 c20 Φ [hv e.h,.lst (nv ds),shD m s,mrD m s]=some (.tup [.lst (hv e.h::path.map fun x=>hv x.2.h),hv e.im]):=by
 let r0:Nat→Slot:=upd (upd (upd (upd (upd (upd (fun _=>.unset) 0 (.val (hv e.h))) 1 (.val (.lst (nv ds)))) 2 (.val (shD m s))) 3 (.val (mrD m s))) 4 (.fn 0)) 5 (.fn 1)
 let r1:Nat→Slot:=upd (upd r0 7 (.own (.l []))) 6 (.own (.l [hv e.h]))
 obtain ⟨path,r2,⟨p1,p2⟩,p3,p4,p5,p6⟩:=down_loop X hm hs ds e r1 [] [] he (by omega) (by rw [List.length_nil]; omega) (by rw [List.length_nil]; omega) (by omega) rfl rfl rfl rfl
 obtain ⟨r3,k1,k2,k3⟩:=up_loop X hm hs path e (upd r2 14 (.val (hv []))) he (by omega) p1 ((upd_j rfl).trans (p6 3 (by omega))) ((upd_j rfl).trans (p6 5 (by omega))) (upd_i _ _ _)
 refine ⟨path,p1,p2.trans hd,?_⟩
 have e0:c20.ex Φ (FI r0)=some (.ret (.tup [.lst (hv e.h::path.map fun x=>hv x.2.h),hv e.im])):=by
  refine seqN (σ':=FI r1) (by kernel_rfl) ?_
  refine seqN (σ':=FI r2) (for_ex (h:=by kernel_rfl) (xs:=nv ds) (it_lst (sV (FI_get (r:=r1) (i:=1) (by decide)) rfl)) p3.go) ?_
  refine seqN (σ':=FI (upd r2 14 (.val (hv [])))) (img0 Φ r2) ?_
  refine seqN (σ':=FI r3) (for_ex (h:=by kernel_rfl) (it_lst (rev_ev (sO (FI_get (r:=upd r2 14 (.val (hv []))) (i:=7) (by decide)) ((upd_j rfl).trans p5)) (by rw [List.nil_append,List.length_map,p2]; omega))) k1.go) ?_
  have g6:r3 6=.own (.l (hv e.h::path.map fun x=>hv x.2.h)):=(k3 6 (by omega)).trans ((upd_j rfl).trans p4)
  refine bnd (sO (FI_get (by decide)) g6) ?_
  rw [FI_set (by decide)]
  exact seq_ret (ex_ret (ev_tup (evL2 (x:=PV.lst (hv e.h::path.map fun x=>hv x.2.h)) (y:=hv e.im) (sV (FI_get (r:=upd r3 6 (.val (.lst (hv e.h::path.map fun x=>hv x.2.h)))) (i:=6) (by decide)) (upd_i _ _ _)) (sV (FI_get (r:=upd r3 6 (.val (.lst (hv e.h::path.map fun x=>hv x.2.h)))) (i:=14) (by decide)) ((upd_j rfl).trans k2))) (by show 2≤1000000; omega)))
 show (c20.ex Φ (FI r0)).bind _=_
 rw [e0]; rfl
end
end L
end Mine
end
section
open PySem PySem.W PyProof.Rows
namespace Mine
namespace L
noncomputable abbrev L8:Fns:=lib.lev 8
noncomputable abbrev own4 (a b c d:Int):Slot:=.own (.l (iv [a,b,c,d]))
section
variable {m s:Nat} {r:Nat→Slot}
theorem w_s0 (r:Nat→Slot):c21s0.ex L8 (FW r)=some (.next (FW (upd r 1 (own4 535 1296 199 48)))):=by kernel_rfl
theorem w_x0a (r:Nat→Slot) (n a b c d:Int) (i:Int):c21x0.ex L8 (FW (upd (upd (upd r 1 (own4 a b c d)) 2 (.val (.int i))) 3 (.val (.int n)))) =
  (okIx 4 (Int.fmod i 4)).bind fun k=>((iv [a,b,c,d])[k]?).bind fun x=>(iaddI.f x (.int (Int.fmod n 1000000))).map fun y=>.next ((FW (upd (upd (upd r 1 (own4 a b c d)) 2 (.val (.int i))) 3 (.val (.int n)))).set 1 (.own (.l ((iv [a,b,c,d]).set k y)))):=by kernel_rfl
theorem w_x0b (r:Nat→Slot) (a b c d a' b' c' d':Int) (t u:Slot):(FW (upd (upd (upd r 1 (own4 a b c d)) 2 t) 3 u)).set 1 (own4 a' b' c' d')=FW (upd (upd (upd r 1 (own4 a' b' c' d')) 2 t) 3 u):=by kernel_rfl
theorem w_x0 (r:Nat→Slot) (n a b c d:Int) (i:Nat):∃ a' b' c' d',c21b0.ex L8 (FW (upd (upd (upd r 1 (own4 a b c d)) 2 (.val (.int (i:Int)))) 3 (.val (.int n))))=some (.next (FW (upd (upd (upd r 1 (own4 a' b' c' d')) 2 (.val (.int (i:Int)))) 3 (.val (.int n))))):=by
 have hm:Int.fmod (i:Int) 4=((i % 4:Nat):Int):=by rw [Int.fmod_eq_emod_of_nonneg _ (by omega)]; rfl
 have key:=w_x0a r n a b c d (i:Int)
 rw [hm] at key
 have hk:i % 4=0∨i % 4=1∨i % 4=2∨i % 4=3:=by omega
 rcases hk with e | e | e | e <;> rw [e] at key
 ·exact ⟨a+Int.fmod n 1000000,b,c,d,seqN (key.trans (congrArg (fun z=>some (Out.next z)) (w_x0b r a b c d _ _ _ _ _ _))) rfl⟩
 ·exact ⟨a,b+Int.fmod n 1000000,c,d,seqN (key.trans (congrArg (fun z=>some (Out.next z)) (w_x0b r a b c d _ _ _ _ _ _))) rfl⟩
 ·exact ⟨a,b,c+Int.fmod n 1000000,d,seqN (key.trans (congrArg (fun z=>some (Out.next z)) (w_x0b r a b c d _ _ _ _ _ _))) rfl⟩
 ·exact ⟨a,b,c,d+Int.fmod n 1000000,seqN (key.trans (congrArg (fun z=>some (Out.next z)) (w_x0b r a b c d _ _ _ _ _ _))) rfl⟩
noncomputable abbrev pBind:=(tgn (sc:=D21.sc nm) [⟨2,"place",(qz 332 8 13)⟩,⟨3,"number",(qz 332 15 21)⟩] 0 (qz 332 8 21)).bind
theorem w_bind (r:Nat→Slot) (x t u:Slot) (i n:PV):pBind (.tup [i,n]) (FW (upd (upd (upd r 1 x) 2 t) 3 u))=some (FW (upd (upd (upd r 1 x) 2 (.val i)) 3 (.val n))):=by kernel_rfl
theorem w_sums (r:Nat→Slot):∀ (ns:List Int) (k:Nat) (a b c d:Int) (t u:Slot),∃ a' b' c' d' t' u',loopGo pBind (c21b0.ex L8) (enumL k (iv ns)) (FW (upd (upd (upd r 1 (own4 a b c d)) 2 t) 3 u))=some (.next (FW (upd (upd (upd r 1 (own4 a' b' c' d')) 2 t') 3 u')))
 | [],k,a,b,c,d,t,u=>⟨a,b,c,d,t,u,rfl⟩
 | n::ns,k,a,b,c,d,t,u=>by
  obtain ⟨a',b',c',d',e⟩:=w_x0 r n a b c d k
  obtain ⟨a₂,b₂,c₂,d₂,t',u',ih⟩:=w_sums r ns (k+1) a' b' c' d' (.val (.int (k:Int))) (.val (.int n))
  exact ⟨a₂,b₂,c₂,d₂,t',u',loopN (w_bind r _ t u _ _) e ih⟩
theorem w_s1 {ns:List Int} (hz:ns.length≤63) {a b c d:Int} (h0:r 0=.val (.lst (ns.map .int))) (h1:r 1=own4 a b c d):∃ a' b' c' d' t u,c21s1.ex L8 (FW r)=some (.next (FW (upd (upd (upd r 1 (own4 a' b' c' d')) 2 t) 3 u))):=by
 have hc:∃ ms:List Int,cut (ns.map PV.int) (ns.map PV.int).length none (some 60)=iv ms:=⟨cut ns ns.length none (some 60),by unfold cut iv; rw [List.length_map,List.map_take,List.map_drop]⟩
 obtain ⟨ms,hc⟩:=hc
 obtain ⟨a',b',c',d',t,u,e⟩:=w_sums r ms 0 a b c d (r 2) (r 3)
 rw [upd_self h1,upd_self (i:=2) rfl,upd_self (i:=3) rfl] at e
 refine ⟨a',b',c',d',t,u,for_ex (h:=by kernel_rfl) (xs:=enumL 0 (iv ms)) (it_enm (hg:=by kernel_rfl) ?_) e⟩
 refine bnd (ev_of (sV (FW_get (r:=r) (i:=0) (by decide)) h0)) ?_
 refine (cond_t (fits_t ?_)).trans (by rw [hc])
 rw [List.length_map]; omega
theorem f14 (ps:List PV):L8.fn 14 ps=defEv D14 c14 (lib.lev 7) ps:=by kernel_rfl
theorem figs5 (n:Int):∃ a b c d e:Nat,(a < 3∧b < 4∧c < 7∧d < 4∧e < 6)∧L8.fn 14 [.int n,.lst (nv [3,4,7,4,6])]=some (.lst (nv [a,b,c,d,e])):=by
 obtain ⟨ds,e1,h⟩:=figs_nat (Φ:=lib.lev 7) (n:=n) (bs:=[3,4,7,4,6]) (by decide) (by decide)
 match ds,h with
 | [a,b,c,d,e],h=>exact ⟨a,b,c,d,e,⟨h.1,h.2.1,h.2.2.1,h.2.2.2.1,h.2.2.2.2.1⟩,(f14 _).trans e1⟩
theorem w_s2a (r:Nat→Slot) (a b c d:Int):c21s2.ex L8 (FW (upd r 1 (own4 a b c d)))=(L8.fn 14 [.int a,.lst (nv [3,4,7,4,6])]).bind fun p=>(p.lst?).bind fun ps=>(setL [⟨4,"many",(qz 334 4 8)⟩,⟨5,"size",(qz 334 10 14)⟩,⟨6,"light",(qz 334 16 21)⟩,⟨7,"pure",(qz 334 23 27)⟩,⟨8,"dress",(qz 334 29 34)⟩] ps (FW (upd r 1 (own4 a b c d)))).map .next:=by kernel_rfl
theorem w_s2b (r:Nat→Slot) (x:Slot) (a b c d e:PV):setL [⟨4,"many",(qz 334 4 8)⟩,⟨5,"size",(qz 334 10 14)⟩,⟨6,"light",(qz 334 16 21)⟩,⟨7,"pure",(qz 334 23 27)⟩,⟨8,"dress",(qz 334 29 34)⟩] [a,b,c,d,e] (FW (upd r 1 x))=some (FW (upd (upd (upd (upd (upd (upd r 1 x) 4 (.val a)) 5 (.val b)) 6 (.val c)) 7 (.val d)) 8 (.val e))):=by kernel_rfl
theorem w_s3 (r:Nat→Slot) (a b:Int):c21s3.ex L8 (FW (upd (upd r 4 (.val (.int a))) 5 (.val (.int b))))=some (.next (FW (upd (upd (upd (upd r 4 (.val (.int a))) 5 (.val (.int b))) 4 (.val (.int (a+2)))) 5 (.val (.int (b+3)))))):=by kernel_rfl
theorem below_len:∀ {ds bs:List Nat},Below ds bs→ds.length=bs.length
 | [],[],_=>rfl
 | _::_,_::_,h=>congrArg (·+1) (below_len h.2)
theorem six_elt (Φ:Fns) (r:Nat→Slot) (s:Nat) (hs:3≤s∧s≤6) (x:Slot) (y:PV):c21k0.elt.ev Φ (.val y::FW (upd (upd r 1 x) 5 (.val (.int (s:Int)))))=Φ.fn 14 [y,.lst (nv (List.replicate s 6))]:=by
 have:s=3∨s=4∨s=5∨s=6:=by omega
 rcases this with rfl | rfl | rfl | rfl <;> kernel_rfl
theorem six_it (Φ:Fns) (r:Nat→Slot) (a b c d:Int) (t:Slot):c21k0.it.ev Φ (FW (upd (upd r 1 (own4 a b c d)) 5 t))=some (iv [b,c,d]):=by kernel_rfl
theorem six_bind (σ:List Slot) (y:PV):c21k0.tg.bind y (unsets (compVars c21k0.scope).length σ)=some (.val y::σ):=rfl
theorem w_s4b (r:Nat→Slot) (a b c:PV):setL [⟨9,"picks",(qz 336 4 9)⟩,⟨10,"turns",(qz 336 11 16)⟩,⟨11,"others",(qz 336 18 24)⟩] [a,b,c] (FW r)=some (FW (upd (upd (upd r 9 (.val a)) 10 (.val b)) 11 (.val c))):=by kernel_rfl
theorem w_s4 {a b c d:Int} (hs:3≤s∧s≤6) (h1:r 1=own4 a b c d) (h5:r 5=.val (.int (s:Int))):∃ A B C:List Nat,(A.length=s∧B.length=s∧C.length=s)∧c21s4.ex L8 (FW r)=some (.next (FW (upd (upd (upd r 9 (.val (.lst (nv A)))) 10 (.val (.lst (nv B)))) 11 (.val (.lst (nv C)))))):=by
 have key:∀ n:Int,∃ ds:List Nat,L8.fn 14 [.int n,.lst (nv (List.replicate s 6))]=some (.lst (nv ds))∧ds.length=s:=fun n=>by
  obtain ⟨ds,e1,h⟩:=figs_nat (Φ:=lib.lev 7) (n:=n) (bs:=List.replicate s 6) (fun b m=>by rw [List.eq_of_mem_replicate m]; omega) (by rw [List.length_replicate]; omega)
  exact ⟨ds,(f14 _).trans e1,(below_len h).trans List.length_replicate⟩
 obtain ⟨A,e1,k1⟩:=key b
 obtain ⟨B,e2,k2⟩:=key c
 obtain ⟨C,e3,k3⟩:=key d
 refine ⟨A,B,C,⟨k1,k2,k3⟩,?_⟩
 have hr:upd (upd r 1 (own4 a b c d)) 5 (.val (.int (s:Int)))=r:=by rw [upd_self h1,upd_self h5]
 have e:c21k0.ev L8 (FW r)=some [.lst (nv A),.lst (nv B),.lst (nv C)]:=by
  rw [← hr]
  refine cp_ev (xs:=iv [b,c,d]) (six_it _ _ _ _ _ _ _) ?_ (Nat.le_of_ble_eq_true rfl)
  refine comp_map (α:=Int × List Nat) (f:=fun y=>.int y.1) (g:=fun y=>.lst (nv y.2)) (ys:=[(b,A),(c,B),(d,C)]) fun y q=>⟨_,six_bind _ _,rfl,(six_elt _ _ _ hs _ _).trans ?_⟩
  rcases List.mem_cons.mp q with rfl | q
  ·exact e1
  ·rcases List.mem_cons.mp q with rfl | q
   ·exact e2
   ·rw [List.mem_singleton.mp q]; exact e3
 refine bnd (ev_comp e) (bnd (a:=[.lst (nv A),.lst (nv B),.lst (nv C)]) rfl (mp ?_))
 exact w_s4b r _ _ _
theorem w_s5 (r:Nat→Slot):c21s5.ex L8 (FW r)=some (.next (FW (upd r 12 (.val (hv []))))):=by kernel_rfl
theorem w_s2 {a b c d:Int} (h1:r 1=own4 a b c d):∃ m s l p e:Nat,(m < 3∧s < 4∧l < 7∧p < 4∧e < 6)∧c21s2.ex L8 (FW r)=some (.next (FW (upd (upd (upd (upd (upd r 4 (.val (.int (m:Int)))) 5 (.val (.int (s:Int)))) 6 (.val (.int (l:Int)))) 7 (.val (.int (p:Int)))) 8 (.val (.int (e:Int)))))):=by
 obtain ⟨m,s,l,p,e,q,e1⟩:=figs5 a
 refine ⟨m,s,l,p,e,q,?_⟩
 have hr:upd r 1 (own4 a b c d)=r:=upd_self h1
 have q:=w_s2a r a b c d
 have q2:=w_s2b r (own4 a b c d) (.int (m:Int)) (.int (s:Int)) (.int (l:Int)) (.int (p:Int)) (.int (e:Int))
 rw [hr] at q q2
 rw [q,e1]
 exact mp q2
end
end L
end Mine
end
section
open PySem PySem.W PyProof.Rows
namespace Mine
namespace L
noncomputable def glB (m:Nat):Bool:=allL (fun e=>and (Nat.ble e.gr.length 100) (Nat.ble e.ga.length 100)) (TB m)
theorem t_gl:and (glB 2) (and (glB 3) (glB 4))=true:=by kernel_rfl
section
variable {m s:Nat} {r:Nat→Slot}
theorem gl_at (hm:Few m) {e:En} (he:e∈TB m):e.gr.length≤100:=by
 have q:glB m=true:=by
  have q:=and_is t_gl
  rcases hm with rfl | rfl | rfl
  ·exact q.1
  ·exact (and_is q.2).1
  ·exact (and_is q.2).2
 exact Nat.ble_eq.mp (and_is (allL_is q e he)).1
theorem grow_at (hm:Few m) {e:En} (he:e∈TB m) (hz:sumN e.h < 6) (r:Nat→Slot):(c21k1.ev L8 (FW (upd r 12 (.val (hv e.h))))=some (e.ga.map hv)∧c21k3.ev L8 (FW (upd (upd (upd r 4 (.val (.int (m:Int)))) 12 (.val (hv e.h))) 15 (.val (.lst (e.ga.map hv)))))=some (e.gr.map hv))∧0 < e.gr.length∧∀ g∈e.gr,sumN g=sumN e.h+1∧∃ e'∈TB m,e'.h=g:=by
 have q:allL (growB m r) (TB m)=true:=by
  rcases hm with rfl | rfl | rfl
  ·exact t_grow2 r
  ·exact t_grow3 r
  ·exact t_grow4 r
 have q:=allL_is q e he
 unfold growB at q
 rw [nbeq (by omega)] at q
 have q:=and_is (show and _ _=true from q)
 have q1:=and_is q.1
 have q2:=and_is q.2
 refine ⟨⟨isVs_is q1.1,isVs_is q1.2⟩,Nat.blt_eq.mp q2.1,fun g mg=>?_⟩
 have q:=and_is (allL_is q2.2 g mg)
 obtain ⟨e',m1,m2⟩:=anyL_is q.2
 exact ⟨Nat.eq_of_beq_eq_true q.1,e',m1,eqN_is m2⟩
noncomputable abbrev kBind:=(tg1 (sc:=D21.sc nm) ⟨13,"pick",(qz 338 8 12)⟩).bind
theorem grow_step (hm:Few m) {e:En} (he:e∈TB m) (hz:sumN e.h < 6) {d:Nat} (h4:r 4=.val (.int (m:Int))) (h12:r 12=.val (hv e.h)) (h13:r 13=.val (.int (d:Int))):∃ e'∈TB m,sumN e'.h=sumN e.h+1∧∃ t,c21b1.ex L8 (FW r)=some (.next (FW (upd (upd r 15 t) 12 (.val (hv e'.h))))):=by
 obtain ⟨⟨q1,q2⟩,q3,q4⟩:=grow_at hm he hz r
 rw [upd_self h12] at q1
 rw [upd_self h4,upd_self h12] at q2
 have gj:d % e.gr.length < e.gr.length:=Nat.mod_lt _ q3
 obtain ⟨z,e',me',he'⟩:=q4 _ (List.getElem_mem gj)
 have hgl:=gl_at hm he
 refine ⟨e',me',by rw [he',z],.val (.lst (e.gr.map hv)),?_⟩
 refine seqN (σ':=FW (upd r 15 (.val (.lst (e.ga.map hv))))) ((mp q1).trans (congrArg (fun z=>some (Out.next z)) (FW_set (by decide)))) ?_
 refine seqN (σ':=FW (upd (upd r 15 (.val (.lst (e.ga.map hv)))) 15 (.val (.lst (e.gr.map hv))))) ((mp q2).trans (congrArg (fun z=>some (Out.next z)) (FW_set (by decide)))) ?_
 rw [upd_twice]
 have g15:upd r 15 (.val (.lst (e.gr.map hv))) 15=.val (.lst (e.gr.map hv)):=upd_i _ _ _
 refine seqN (σ':=FW (upd (upd r 15 (.val (.lst (e.gr.map hv)))) 12 (.val (hv e'.h)))) ?_ rfl
 refine (mp (pick_ev (hg:=by kernel_rfl) (q:=hv e'.h) (d:=d) (xs:=e.gr.map hv) (ev_of (sV (FW_get (by decide)) g15)) (sV (FW_get (by decide)) ((upd_j rfl).trans h13)) (sV (FW_get (by decide)) g15) (by rw [List.length_map]; omega) ?_)).trans (congrArg (fun z=>some (Out.next z)) (FW_set (by decide)))
 rw [List.length_map,List.getElem?_map,List.getElem?_eq_getElem gj,he']; rfl
theorem grow_loop (hm:Few m):∀ (ds:List Nat) (e:En) (r:Nat→Slot),e∈TB m→sumN e.h+ds.length≤6→r 4=.val (.int (m:Int))→r 12=.val (hv e.h)→∃ e'∈TB m,sumN e'.h=sumN e.h+ds.length∧∃ r',loopGo kBind (c21b1.ex L8) (nv ds) (FW r)=some (.next (FW r'))∧r' 12=.val (hv e'.h)∧∀ j,j < 12→r' j=r j
 | [],e,r,he,hz,h4,h12=>⟨e,he,rfl,r,rfl,h12,fun _ _=>rfl⟩
 | d::ds,e,r,he,hz,h4,h12=>by
  rw [List.length_cons] at hz
  obtain ⟨e',me',z,t,e1⟩:=grow_step (r:=upd r 13 (.val (.int (d:Int)))) hm he (by omega) ((upd_j rfl).trans h4) ((upd_j rfl).trans h12) (upd_i _ _ _)
  obtain ⟨e₂,me₂,z₂,r',k1,k2,k3⟩:=grow_loop hm ds e' (upd (upd (upd r 13 (.val (.int (d:Int)))) 15 t) 12 (.val (hv e'.h))) me' (by omega) ((upd_j rfl).trans ((upd_j rfl).trans ((upd_j rfl).trans h4))) (upd_i _ _ _)
  refine ⟨e₂,me₂,by rw [z₂,List.length_cons]; omega,r',loopN (congrArg some (FW_set (by decide))) e1 k1,k2,fun j hj=>(k3 j hj).trans ?_⟩
  exact (upd_j (nbeq (by omega))).trans ((upd_j (nbeq (by omega))).trans (upd_j (nbeq (by omega))))
noncomputable def t0B (m:Nat):Bool:=anyL (fun e=>eqN e.h []) (TB m)
theorem t_t0:and (t0B 2) (and (t0B 3) (t0B 4))=true:=by kernel_rfl
theorem nil_at (hm:Few m):∃ e∈TB m,e.h=[]:=by
 have q:t0B m=true:=by
  have q:=and_is t_t0
  rcases hm with rfl | rfl | rfl
  ·exact q.1
  ·exact (and_is q.2).1
  ·exact (and_is q.2).2
 obtain ⟨e,m1,m2⟩:=anyL_is q
 exact ⟨e,m1,eqN_is m2⟩
theorem w_s6 (hm:Few m) {ds:List Nat} (hz:ds.length≤6) (h4:r 4=.val (.int (m:Int))) (h12:r 12=.val (hv [])) (h9:r 9=.val (.lst (nv ds))):∃ e∈TB m,sumN e.h=ds.length∧∃ r',c21s6.ex L8 (FW r)=some (.next (FW r'))∧r' 12=.val (hv e.h)∧∀ j,j < 12→r' j=r j:=by
 obtain ⟨e0,me0,h0⟩:=nil_at hm
 obtain ⟨e,me,z,r',k1,k2,k3⟩:=grow_loop hm ds e0 r me0 (by rw [h0]; show 0+_≤_; omega) h4 (by rw [h0]; exact h12)
 refine ⟨e,me,by rw [z,h0]; exact Nat.zero_add _,r',for_ex (h:=by kernel_rfl) (xs:=nv ds) (it_lst (sV (FW_get (r:=r) (i:=9) (by decide)) h9)) k1,k2,k3⟩
theorem w_s7 (r:Nat→Slot):c21s7.ex L8 (FW r)=some (.next (FW (upd (upd r 17 (.own (.d [] []))) 16 (.own (.d [] []))))):=by kernel_rfl
end
end L
end Mine
end
section
open PySem PySem.W PyProof.Rows
namespace Mine
namespace L
noncomputable def wl (s:Nat):Nat→Nat→List PV
 | 0,_=>[]
 | k+1,i=>.int ((i:Int) - (s:Int))::wl s k (i+1)
noncomputable def toldL (m l p:Nat) (w:Int):PV:=.tup [.tup [.int (Int.fdiv w m),.int (Int.fmod w m)],.int (Int.fmod (Int.fmod w m+Int.fmod (-w) m) m),.int ((l:Int)+1),.int ((p:Int)+1)]
noncomputable def toldR (m l p:Nat) (w:Int):PV:=.tup [.tup [.int (Int.fdiv (w - Int.fmod w m) m),.int (Int.fmod w m)],.int 0,.int ((l:Int)+1),.int ((p:Int)+1)]
noncomputable def teB (m:Nat):Bool:=allN 7 fun l=>allN 4 fun p=>allN 13 fun i=>onO (neD.f (toldL m l p (Int.ofNat i - 6)) (toldR m l p (Int.ofNat i - 6))) not
theorem t_te:and (teB 2) (and (teB 3) (teB 4))=true:=by kernel_rfl
theorem Few.of {B:Nat→Bool} (h:and (B 2) (and (B 3) (B 4))=true) {m:Nat} (hm:Few m):B m=true:=by
 have q:=and_is h
 rcases hm with rfl | rfl | rfl
 ·exact q.1
 ·exact (and_is q.2).1
 ·exact (and_is q.2).2
section
variable {sc:SC} {Φ:Fns} {σ:List Slot} {m s l p:Nat} {r:Nat→Slot} {p1 p2 p3 p4 p5:Pos}
theorem evL4 {a b c d:SE sc} {x y z u:PV} (h:a.ev Φ σ=some x) (h':b.ev Φ σ=some y) (h'':c.ev Φ σ=some z) (h3:d.ev Φ σ=some u):evL Φ σ [a,b,c,d]=some [x,y,z,u]:=by unfold evL; rw [h,evL3 h' h'' h3]; rfl
theorem nz_few (hm:Few m):nz (m:Int)=true∧sm (m:Int)=true:=by rcases hm with rfl | rfl | rfl <;> exact ⟨rfl,rfl⟩
theorem modI_ev {a b:SE sc} {x:Int} (hm:Few m) (h1:a.ev Φ σ=some (.int x)) (h2:b.ev Φ σ=some (.int (m:Int))):(SE.bin modII a b p1).ev Φ σ=some (.int (Int.fmod x (m:Int))):=ev2 h1 h2 (cond_t (nz_few hm).1)
theorem divI_ev {a b:SE sc} {x:Int} (hm:Few m) (h1:a.ev Φ σ=some (.int x)) (h2:b.ev Φ σ=some (.int (m:Int))):(SE.bin fdivII a b p1).ev Φ σ=some (.int (Int.fdiv x (m:Int))):=ev2 h1 h2 (cond_t (show (nz (m:Int)&&sm (m:Int))=true by rw [(nz_few hm).1,(nz_few hm).2]; rfl))
theorem addI_ev {a b:SE sc} {x y:Int} (h1:a.ev Φ σ=some (.int x)) (h2:b.ev Φ σ=some (.int y)):(SE.bin addII a b p1).ev Φ σ=some (.int (x+y)):=ev2 h1 h2 rfl
theorem subI_ev {a b:SE sc} {x y:Int} (h1:a.ev Φ σ=some (.int x)) (h2:b.ev Φ σ=some (.int y)):(SE.bin subII a b p1).ev Φ σ=some (.int (x - y)):=ev2 h1 h2 rfl
theorem rnd_ev {a b:SE sc} {k t:Int} {q:UInt64} {hg:isGlob sc intF.x=true} {k1 k2:Nat} {p6 p7:Pos} (ha:a.ev Φ σ=some (.int k)) (hb:b.ev Φ σ=some (.flt q)) (h:toI k q=some t):(SE.bin fdivII (.bi intF [.bin addFI (.bin mulIF a b p1) (.int 1 k1 p2) p3] p4 p5 hg) (.int 2 k2 p6) p7).ev Φ σ=some (.int (Int.fdiv t 2)):=by
 refine onBind h fun x e1 e=>onBind e fun y e2 e=>onBind e fun z e3 e4=>?_
 refine ev2 (x:=.int t) (y:=.int 2) (bnd (evL1 (ev2 (ev2 ha hb e1) rfl e2)) ?_) rfl rfl
 rw [e3,PV.is_int e4]
theorem set3 {t u v:Tg} {x y z:PV} (ht:t.i < 43) (hu:u.i < 43) (hv:v.i < 43):setL [t,u,v] [x,y,z] (FW r)=some (FW (upd (upd (upd r t.i (.val x)) u.i (.val y)) v.i (.val z))):=by
 show some ((((FW r).set t.i (.val x)).set u.i (.val y)).set v.i (.val z))=_
 rw [FW_set ht,FW_set hu,FW_set hv]
theorem dg_own {i:Nat} {x:Str} {ix:SE sc} {w:Int} {ks:List Int} {v:PV} {fs:List PV} {hm:isVar sc i x=true} (h1:slotD σ i=some (w::ks,v::fs)) (h2:ix.ev Φ σ=some (.int w)):(SE.dget (SD.own i x p1 hm) ix p2).ev Φ σ=some v:=by
 refine bnd h1 (bnd h2 ?_)
 exact if_pos rfl
theorem sd_ex {i:Nat} {x:Str} {ix v:SE sc} {w:Int} {ks:List Int} {y:PV} {fs:List PV} {hm:isVar sc i x=true} {hs:∀ env,swapsWith v.e (some (.Subscript (.Name x p1) ix.e p2)) p3.line env=pure false} (h1:slotD σ i=some (ks,fs)) (h2:v.ev Φ σ=some y) (h3:ix.ev Φ σ=some (.int w)) (hz:ks.length≤1000):(SS.setDict i x p1 p2 ix v p3 hm hs).ex Φ σ=some (.next (σ.set i (.own (.d (w::ks) (y::fs))))):=bnd h1 (bnd h2 (bnd h3 (cond_t (fits_t (by show ks.length≤_; omega)))))
structure Way (m l p:Nat) (w:Int) (L Q:UInt64):Prop where
 go:∃ h ra ga ba hue sh va h2 rb gb bb ac si stt t1 t2 t3 t4,(divII.f (.int w) (.int (m:Int))=some (.flt h)∧L8.fn 9 [.flt h,.flt L,.flt Q]=some (.tup [.flt ra,.flt ga,.flt ba])∧L8.fn 11 [.flt ra,.flt ga,.flt ba]=some (.tup [.flt hue,.flt sh,.flt va])∧subIF.f (.int 1) (.flt hue)=some (.flt h2)∧L8.fn 12 [.flt h2,.flt sh,.flt va]=some (.tup [.flt rb,.flt gb,.flt bb])∧L8.fn 8 [.flt rb,.flt gb,.flt bb]=some (.tup [.flt ac,.flt si,.flt stt])) ∧
  (toI (2 * (m:Int)) hue=some t1∧toI (2 * (m:Int)) ac=some t2∧toI 16 si=some t3∧toI 8 stt=some t4)∧(Int.fmod (Int.fdiv t1 2) m=Int.fmod w m∧Int.fmod (Int.fdiv t2 2) m=Int.fmod (-w) m∧Int.fdiv t3 2=(l:Int)+1∧Int.fdiv t4 2=(p:Int)+1)
 dm:L8.fn 7 [.int w,.int (m:Int)]=some (.tup [.int (Int.fdiv w m),.int (Int.fmod w m)])
 eq:neD.f (toldL m l p w) (toldR m l p w)=some false
theorem way_at (hm:Few m) (hl:l < 7) (hp:p < 4):∃ L Q,(divII.f (.int ((l:Int)+1)) (.int 8)=some (.flt L)∧divII.f (.int ((p:Int)+1)) (.int 4)=some (.flt Q))∧∀ i:Nat,i < 13→Way m l p ((i:Int) - 6) L Q:=by
 have q:allN 7 (fun l=>allN 4 fun p=>waysB m l p)=true:=by
  rcases hm with rfl | rfl | rfl
  ·exact t_ways2
  ·exact t_ways3
  ·exact t_ways4
 have q:=allN_is (allN_is q l hl) p hp
 obtain ⟨L,e1,q⟩:=onF_is q
 obtain ⟨Q,e2,q⟩:=onF_is q
 refine ⟨L,Q,⟨e1,e2⟩,fun i hi=>?_⟩
 have q:=allN_is q i hi
 obtain ⟨h,f1,q⟩:=onF_is q
 obtain ⟨ra,ga,ba,f2,q⟩:=onF3_is q
 obtain ⟨hue,sh,va,f3,q⟩:=onF3_is q
 obtain ⟨h2,f4,q⟩:=onF_is q
 obtain ⟨rb,gb,bb,f5,q⟩:=onF3_is q
 obtain ⟨ac,si,stt,f6,q⟩:=onF3_is q
 obtain ⟨t1,g1,q⟩:=onO_is q
 obtain ⟨t2,g2,q⟩:=onO_is q
 obtain ⟨t3,g3,q⟩:=onO_is q
 obtain ⟨t4,g4,q⟩:=onO_is q
 obtain ⟨q1,q2⟩:=and_is q
 have dm:=allN_is (Few.of (B:=dmB) t_dm hm) i hi
 obtain ⟨b,te1,te2⟩:=onO_is (allN_is (allN_is (allN_is (Few.of (B:=teB) t_te hm) l hl) p hp) i hi)
 refine ⟨⟨h,ra,ga,ba,hue,sh,va,h2,rb,gb,bb,ac,si,stt,t1,t2,t3,t4,⟨f1,f2,f3,f4,f5,f6⟩,⟨g1,g2,g3,g4⟩,eq_of_beq (and_is q1).1,eq_of_beq (and_is q1).2,eq_of_beq (and_is q2).1,eq_of_beq (and_is q2).2⟩,isV_is dm,?_⟩
 cases b with
 | true=>exact nomatch te2
 | false=>exact te1
end
end L
end Mine
end
section
open PySem PySem.W PyProof.Rows
namespace Mine
namespace L
section
variable {sc:SC} {Φ:Fns} {m s l p:Nat} {r:Nat→Slot}
theorem mv3 {t u v:Tg} {x y z:PV} {k:Nat} {pp pos:Pos} {e:SE sc} {h:[t,u,v].all (Tg.ok sc)=true} {hs:∀ env:Env,env.scope.kind=.function→env.scope.names=sc.N→swappedStores [.Tuple ([t,u,v].map Tg.e) k pp] e.e env=pure none} (ht:t.i < 43) (hu:u.i < 43) (hv:v.i < 43) (e1:e.ev Φ (FW r)=some (.tup [x,y,z])) :
  (SS.many true [t,u,v] k pp e pos h hs).ex Φ (FW r)=some (.next (FW (upd (upd (upd r t.i (.val x)) u.i (.val y)) v.i (.val z)))):=bnd e1 (bnd (a:=[x,y,z]) rfl (mp (set3 ht hu hv)))
theorem st_ex {t:Tg} {v:SE sc} {pos:Pos} {h:t.ok sc=true} {hs:∀ env:Env,env.scope.kind=.function→env.scope.names=sc.N→swapsWith v.e (some (.Name t.x t.p)) pos.line env=pure false} {q:PV} (ht:t.i < 43) (e1:v.ev Φ (FW r)=some q):(SS.set t v pos h hs).ex Φ (FW r)=some (.next (FW (upd r t.i (.val q)))):=(mp e1).trans (congrArg (fun z=>some (Out.next z)) (FW_set ht))
theorem sdW {i:Nat} {x:Str} {ix v:SE sc} {w:Int} {ks:List Int} {y:PV} {fs:List PV} {p1 p2 p3:Pos} {hm:isVar sc i x=true} {hs:∀ env,swapsWith v.e (some (.Subscript (.Name x p1) ix.e p2)) p3.line env=pure false} (hi:i < 43) (h1:r i=.own (.d ks fs)) (h2:v.ev Φ (FW r)=some y) (h3:ix.ev Φ (FW r)=some (.int w)) (hz:ks.length≤1000):(SS.setDict i x p1 p2 ix v p3 hm hs).ex Φ (FW r)=some (.next (FW (upd r i (.own (.d (w::ks) (y::fs)))))):=(sd_ex (sD (FW_get hi) h1) h2 h3 hz).trans (congrArg (fun z=>some (Out.next z)) (FW_set hi))
theorem vW {i:Nat} {x:Str} {p1:Pos} {hm:isVar sc i x=true} {q:PV} (hi:i < 43) (h:r i=.val q):(SE.var i x p1 hm:SE sc).ev Φ (FW r)=some q:=sV (FW_get hi) h
theorem callE {σ:List Slot} {f:Nat} {x:Str} {as:List (SE sc)} {ps:List PV} {q:PV} {p1 p:Pos} {hx:sc.nm.fns[f]?=some x} {hg:isGlob sc x=true} (h:evL Φ σ as=some ps) (h':Φ.fn f ps=some q):(SE.call f x as p1 p hx hg).ev Φ σ=some q:=bnd h h'
theorem evX {σ:List Slot} {e:SE sc} {q:PV} (h:e.ev Φ σ=some q):(SE.x e).ev Φ σ=some q:=h
theorem dgW {i:Nat} {x:Str} {ix:SE sc} {w:Int} {ks:List Int} {v:PV} {fs:List PV} {p1 p2:Pos} {hm:isVar sc i x=true} (hi:i < 43) (h1:r i=.own (.d (w::ks) (v::fs))) (h2:ix.ev Φ (FW r)=some (.int w)):(SE.dget (SD.own i x p1 hm) ix p2).ev Φ (FW r)=some v:=dg_own (sD (FW_get hi) h1) h2
theorem way_step {w:Int} {L Q:UInt64} {ks:List Int} {fs gs:List PV} (hm:Few m) (eL:divII.f (.int ((l:Int)+1)) (.int 8)=some (.flt L)) (eQ:divII.f (.int ((p:Int)+1)) (.int 4)=some (.flt Q)) (W:Way m l p w L Q) (hz:ks.length≤1000)
  (h4:r 4=.val (.int (m:Int))) (h6:r 6=.val (.int (l:Int))) (h7:r 7=.val (.int (p:Int))) (h14:r 14=.val (.int w)) (h16:r 16=.own (.d ks fs)) (h17:r 17=.own (.d ks gs)) :
  ∃ r',c21b2.ex L8 (FW r)=some (.next (FW r'))∧r' 16=.own (.d (w::ks) (.int (Int.fmod w m)::fs))∧r' 17=.own (.d (w::ks) (.int (Int.fmod (-w) m)::gs))∧∀ j,j < 15∨28≤j→r' j=r j:=by
 obtain ⟨⟨h,ra,ga,ba,hue,sh,va,h2,rb,gb,bb,ac,si,stt,t1,t2,t3,t4,⟨f1,f2,f3,f4,f5,f6⟩,⟨g1,g2,g3,g4⟩,q1,q2,q3,q4⟩,dm,te⟩:=W
 have mm:mulII.f (.int 2) (.int (m:Int))=some (.int (2 * (m:Int))):=rfl
 generalize hΦ:L8=Φ at *
 let R1:=upd (upd (upd r 18 (.val (.flt ra))) 19 (.val (.flt ga))) 20 (.val (.flt ba))
 let R2:=upd (upd (upd R1 21 (.val (.flt hue))) 22 (.val (.flt sh))) 23 (.val (.flt va))
 let R3:=upd (upd (upd R2 18 (.val (.flt rb))) 19 (.val (.flt gb))) 20 (.val (.flt bb))
 let R4:=upd (upd (upd R3 24 (.val (.flt ac))) 25 (.val (.flt si))) 26 (.val (.flt stt))
 let R5:=upd R4 16 (.own (.d (w::ks) (.int (Int.fmod w m)::fs)))
 let R6:=upd R5 17 (.own (.d (w::ks) (.int (Int.fmod (-w) m)::gs)))
 let R7:=upd R6 27 (.val (toldL m l p w))
 refine ⟨R7,?_,rfl,rfl,fun j hj=>?_⟩
 ·refine seqN (σ':=FW R1) (mv3 (h:=by kernel_rfl) (hs:=fun _ _ _=>rfl) (by decide) (by decide) (by decide) (callE (hx:=by kernel_rfl) (hg:=by kernel_rfl) (evL3 (ev2 (vW (hm:=by kernel_rfl) (by decide) h14) (vW (hm:=by kernel_rfl) (by decide) h4) f1) (ev2 (addI_ev (vW (hm:=by kernel_rfl) (by decide) h6) rfl) rfl eL) (ev2 (addI_ev (vW (hm:=by kernel_rfl) (by decide) h7) rfl) rfl eQ)) f2)) ?_
  refine seqN (σ':=FW R2) (mv3 (h:=by kernel_rfl) (hs:=fun _ _ _=>rfl) (by decide) (by decide) (by decide) (callE (hx:=by kernel_rfl) (hg:=by kernel_rfl) (evL3 (vW (hm:=by kernel_rfl) (r:=R1) (by decide) rfl) (vW (hm:=by kernel_rfl) (r:=R1) (by decide) rfl) (vW (hm:=by kernel_rfl) (r:=R1) (by decide) rfl)) f3)) ?_
  refine seqN (σ':=FW R3) (mv3 (h:=by kernel_rfl) (hs:=fun _ _ _=>rfl) (by decide) (by decide) (by decide) (callE (hx:=by kernel_rfl) (hg:=by kernel_rfl) (evL3 (ev2 rfl (vW (hm:=by kernel_rfl) (r:=R2) (by decide) rfl) f4) (vW (hm:=by kernel_rfl) (r:=R2) (by decide) rfl) (vW (hm:=by kernel_rfl) (r:=R2) (by decide) rfl)) f5)) ?_
  refine seqN (σ':=FW R4) (mv3 (h:=by kernel_rfl) (hs:=fun _ _ _=>rfl) (by decide) (by decide) (by decide) (callE (hx:=by kernel_rfl) (hg:=by kernel_rfl) (evL3 (vW (hm:=by kernel_rfl) (r:=R3) (by decide) rfl) (vW (hm:=by kernel_rfl) (r:=R3) (by decide) rfl) (vW (hm:=by kernel_rfl) (r:=R3) (by decide) rfl)) f6)) ?_
  refine seqN (σ':=FW R5) (sdW (hm:=by kernel_rfl) (hs:=fun _=>rfl) (r:=R4) (by decide) h16 (Eq.trans (modI_ev hm (rnd_ev (hg:=by kernel_rfl) (ev2 rfl (vW (hm:=by kernel_rfl) (r:=R4) (by decide) h4) mm) (vW (hm:=by kernel_rfl) (r:=R4) (by decide) rfl) g1) (vW (hm:=by kernel_rfl) (r:=R4) (by decide) h4)) (congrArg (fun z=>some (PV.int z)) q1)) (vW (hm:=by kernel_rfl) (r:=R4) (by decide) h14) hz) ?_
  refine seqN (σ':=FW R6) (sdW (hm:=by kernel_rfl) (hs:=fun _=>rfl) (r:=R5) (by decide) h17 (Eq.trans (modI_ev hm (rnd_ev (hg:=by kernel_rfl) (ev2 rfl (vW (hm:=by kernel_rfl) (r:=R5) (by decide) h4) mm) (vW (hm:=by kernel_rfl) (r:=R5) (by decide) rfl) g2) (vW (hm:=by kernel_rfl) (r:=R5) (by decide) h4)) (congrArg (fun z=>some (PV.int z)) q2)) (vW (hm:=by kernel_rfl) (r:=R5) (by decide) h14) hz) ?_
  refine seqN (σ':=FW R7) (st_ex (h:=by kernel_rfl) (hs:=fun _ _ _=>rfl) (r:=R6) (q:=toldL m l p w) (by decide) (ev_tup (evL4 (callE (hx:=by kernel_rfl) (hg:=by kernel_rfl) (evL2 (vW (hm:=by kernel_rfl) (r:=R6) (by decide) h14) (vW (hm:=by kernel_rfl) (r:=R6) (by decide) h4)) dm)
   (modI_ev hm (addI_ev (dgW (hm:=by kernel_rfl) (r:=R6) (by decide) rfl (vW (hm:=by kernel_rfl) (r:=R6) (by decide) h14)) (dgW (hm:=by kernel_rfl) (r:=R6) (by decide) rfl (vW (hm:=by kernel_rfl) (r:=R6) (by decide) h14))) (vW (hm:=by kernel_rfl) (r:=R6) (by decide) h4))
   (Eq.trans (rnd_ev (hg:=by kernel_rfl) rfl (vW (hm:=by kernel_rfl) (r:=R6) (by decide) rfl) g3) (congrArg (fun z=>some (PV.int z)) q3)) (Eq.trans (rnd_ev (hg:=by kernel_rfl) rfl (vW (hm:=by kernel_rfl) (r:=R6) (by decide) rfl) g4) (congrArg (fun z=>some (PV.int z)) q4))) (by show 4≤1000000; omega))) ?_
  refine seqN (iteN (k:=false) (evc (x:=toldL m l p w) (y:=toldR m l p w) (evX (vW (hm:=by kernel_rfl) (r:=R7) (by decide) rfl)) (evX (ev_tup (evL4 (ev_tup (evL2 (divI_ev hm (subI_ev (vW (hm:=by kernel_rfl) (r:=R7) (by decide) h14) (dgW (hm:=by kernel_rfl) (r:=R7) (by decide) rfl (vW (hm:=by kernel_rfl) (r:=R7) (by decide) h14))) (vW (hm:=by kernel_rfl) (r:=R7) (by decide) h4)) (dgW (hm:=by kernel_rfl) (r:=R7) (by decide) rfl (vW (hm:=by kernel_rfl) (r:=R7) (by decide) h14))) (by show 2≤1000000; omega)) rfl (addI_ev (vW (hm:=by kernel_rfl) (r:=R7) (by decide) h6) rfl) (addI_ev (vW (hm:=by kernel_rfl) (r:=R7) (by decide) h7) rfl)) (by show 4≤1000000; omega))) te) rfl) rfl
 ·show upd (upd (upd (upd (upd (upd (upd (upd (upd (upd (upd (upd (upd (upd (upd r _ _) _ _) _ _) _ _) _ _) _ _) _ _) _ _) _ _) _ _) _ _) _ _) _ _) _ _) _ _ j=r j
  iterate 15 refine (upd_j (nbeq (by omega))).trans ?_
  rfl
noncomputable abbrev wBind:=(tg1 (sc:=D21.sc nm) ⟨14,"way",(qz 343 8 11)⟩).bind
theorem kz_len (s:Nat):∀ n,(kz s n).length=n
 | 0=>rfl
 | n+1=>congrArg (·+1) (kz_len s n)
theorem ways_loop {L Q:UInt64} (hm:Few m) (hs:3≤s∧s≤6) (eL:divII.f (.int ((l:Int)+1)) (.int 8)=some (.flt L)) (eQ:divII.f (.int ((p:Int)+1)) (.int 4)=some (.flt Q)) (W:∀ i:Nat,i < 13→Way m l p ((i:Int) - 6) L Q):∀ (k i:Nat) (r:Nat→Slot),i+k=2 * s+1 →
  r 4=.val (.int (m:Int))→r 6=.val (.int (l:Int))→r 7=.val (.int (p:Int))→r 16=.own (.d (kz s i) (fz (sh m) s i))→r 17=.own (.d (kz s i) (fz (mr m) s i)) →
  ∃ r',loopGo wBind (c21b2.ex L8) (wl s k i) (FW r)=some (.next (FW r'))∧r' 16=.own (.d (kz s (2 * s+1)) (fz (sh m) s (2 * s+1)))∧r' 17=.own (.d (kz s (2 * s+1)) (fz (mr m) s (2 * s+1)))∧∀ j,j < 14∨28≤j→r' j=r j
 | 0,i,r,hk,h4,h6,h7,h16,h17=>⟨r,rfl,by rw [h16,← hk]; rfl,by rw [h17,← hk]; rfl,fun _ _=>rfl⟩
 | k+1,i,r,hk,h4,h6,h7,h16,h17=>by
  have ww:=W (i+6 - s) (by omega)
  rw [show ((i+6 - s:Nat):Int) - 6=(i:Int) - (s:Int) by omega] at ww
  obtain ⟨r₁,e1,k16,k17,k0⟩:=way_step (r:=upd r 14 (.val (.int ((i:Int) - (s:Int))))) (ks:=kz s i) hm eL eQ ww (by rw [kz_len]; omega) h4 h6 h7 rfl h16 h17
  obtain ⟨r',e2,j16,j17,j0⟩:=ways_loop hm hs eL eQ W k (i+1) r₁ (by omega) ((k0 4 (by omega)).trans h4) ((k0 6 (by omega)).trans h6) ((k0 7 (by omega)).trans h7) k16 k17
  exact ⟨r',loopN (congrArg some (FW_set (by decide))) e1 e2,j16,j17,fun j hj=>(j0 j hj).trans ((k0 j (by omega)).trans (upd_j (nbeq (by omega))))⟩
theorem w_s8it (Φ:Fns) (r:Nat→Slot) (hs:3≤s∧s≤6):(rg2 (sc:=D21.sc nm) (.una negI (v 5 "size" (qz 343 22 26)) (qz 343 21 26)) (.bin addII (v 5 "size" (qz 343 28 32)) (.int 1 0 (qz 343 35 36)) (qz 343 28 36)) (qz 343 15 20) (qz 343 15 37)).ev Φ (FW (upd r 5 (.val (.int (s:Int)))))=some (wl s (2 * s+1) 0):=by
 have:s=3∨s=4∨s=5∨s=6:=by omega
 rcases this with rfl | rfl | rfl | rfl <;> kernel_rfl
theorem w_s8 (hm:Few m) (hs:3≤s∧s≤6) (hl:l < 7) (hp:p < 4) (h4:r 4=.val (.int (m:Int))) (h5:r 5=.val (.int (s:Int))) (h6:r 6=.val (.int (l:Int))) (h7:r 7=.val (.int (p:Int))) (h16:r 16=.own (.d [] [])) (h17:r 17=.own (.d [] [])) :
  ∃ r',c21s8.ex L8 (FW r)=some (.next (FW r'))∧r' 16=.own (.d (kz s (2 * s+1)) (fz (sh m) s (2 * s+1)))∧r' 17=.own (.d (kz s (2 * s+1)) (fz (mr m) s (2 * s+1)))∧∀ j,j < 14∨28≤j→r' j=r j:=by
 obtain ⟨L,Q,⟨eL,eQ⟩,W⟩:=way_at hm hl hp
 obtain ⟨r',e,k⟩:=ways_loop hm hs eL eQ W (2 * s+1) 0 r (by omega) h4 h6 h7 h16 h17
 refine ⟨r',?_,k⟩
 have q:=w_s8it L8 r hs
 rw [upd_self h5] at q
 exact for_ex (h:=by kernel_rfl) q e
end
end L
end Mine
end
section
open PySem PySem.W PyProof.Rows
namespace Mine
namespace L
noncomputable def fa0:FA (D21.sc nm):=(fl c21z4 "row" ⟨[],[⟨"row",none,(qz 356 7 10)⟩],none,[],[],none,[]⟩ (qz 356 0 47) 235 "law.<locals>." (call 19 "_law_read" [(v 0 "row" (qz 356 22 25)),(v 43 "piece" (qz 356 27 32)),(v 42 "faults" (qz 356 34 40)),(.bool true 0 (qz 356 42 46))] (qz 356 12 21) (qz 356 12 47)))
noncomputable def fa1:FA (D21.sc nm):=(fl c21z5 "row" ⟨[],[⟨"row",none,(qz 357 7 10)⟩],none,[],[],none,[]⟩ (qz 357 0 48) 235 "law.<locals>." (call 19 "_law_read" [(v 0 "row" (qz 357 22 25)),(v 43 "piece" (qz 357 27 32)),(v 42 "faults" (qz 357 34 40)),(.bool false 0 (qz 357 42 47))] (qz 357 12 21) (qz 357 12 48)))
noncomputable def fG:FA (D21.sc nm):=(fg 18 "_law_good" (qz 372 53 62))
noncomputable def fG':FA (D21.sc nm):=(fg 18 "_law_good" (qz 372 64 73))
noncomputable abbrev lenX:SE (D21.sc nm):=(.bin addLL (v 33 "before" (qz 367 18 24)) (.bin mulLI (.lst [(.int 0 0 (qz 367 28 29))] (qz 367 27 30)) (.bin subII (v 5 "size" (qz 367 34 38)) (bi lenB [(v 33 "before" (qz 367 45 51))] (qz 367 41 44) (qz 367 41 52)) (qz 367 34 52)) (qz 367 27 53)) (qz 367 18 53))
noncomputable abbrev cntX:SE (D21.sc nm):=(tupX (.of (.comp c21k10)) (qz 368 17 22) (qz 368 17 80))
noncomputable def two (a b:FA (D21.sc nm)) (σ:List Slot):Nat→(Nat→List PV→Option PV)→List PV→Option PV:=fun i=>bif Nat.beq i 0 then a.T σ else b.T σ
noncomputable def onlyS (o:Option PV):Option PV:=o.bind fun r=>bif scal r then some r else none
theorem fa0_T (r:Nat→Slot) (W:Nat→List PV→Option PV) (q:PV) (pc:Str):fa0.T (FW (upd (upd r 41 (.val (.lst []))) 42 (.val (.str pc)))) W [q]=onlyS (W 19 [q,.str pc,.lst [],.bool true]):=by kernel_rfl
theorem fa1_T (r:Nat→Slot) (W:Nat→List PV→Option PV) (q:PV) (pc:Str):fa1.T (FW (upd (upd r 41 (.val (.lst []))) 42 (.val (.str pc)))) W [q]=onlyS (W 19 [q,.str pc,.lst [],.bool false]):=by kernel_rfl
theorem fG_T (σ:List Slot) (W:Nat→List PV→Option PV) (ps:List PV):fG.T σ W ps=W 18 ps:=by kernel_rfl
theorem fG'_T (σ:List Slot) (W:Nat→List PV→Option PV) (ps:List PV):fG'.T σ W ps=W 18 ps:=by kernel_rfl
theorem hi20 (T:Nat→(Nat→List PV→Option PV)→List PV→Option PV) (ps:List PV):L8.hi 20 T ps=hiEv D20 c20 ((lib.lev 7).with T) ps:=by kernel_rfl
theorem scal_op (o:Option Nat):scal (opP o)=true:=by cases o <;> rfl
theorem onlyS_op {o:Option PV} {k:Option Nat} (h:o=some (opP k)):onlyS o=some (opP k):=by
 rw [h]; show (bif scal (opP k) then some (opP k) else none)=_
 rw [scal_op]; rfl
theorem x_with {T:Nat→(Nat→List PV→Option PV)→List PV→Option PV} {i:Nat} {ps:List PV} {k:Option Nat} (h:T i (lib.lev 7).fn ps=some (opP k)):((lib.lev 7).with T).x i ps=some (opP k):=onlyS_op h
theorem x_mail {pc:Str} (h:mailB pc=true) {r:Nat→Slot} (h41:r 41=.val (.lst [])) (h42:r 42=.val (.str pc)):XOk ((lib.lev 7).with (two fa0 fa1 (FW r))):=by
 have q:=and_is h
 have q0:=fun W x=>fa0_T r W x pc
 have q1:=fun W x=>fa1_T r W x pc
 rw [upd_self h41,upd_self h42] at q0 q1
 refine ⟨fun _ _=>rfl,fun x mx=>x_with ?_,fun x mx=>x_with ?_⟩
 ·exact (q0 _ _).trans (onlyS_op (isV_is (allL_is q.1 x mx)))
 ·exact (q1 _ _).trans (onlyS_op (isV_is (allL_is q.2 x mx)))
theorem x_rule (σ:List Slot):XOk ((lib.lev 7).with (two fG fG' σ)):=by
 have q:=and_is t_rule
 refine ⟨fun _ _=>rfl,fun x mx=>x_with ?_,fun x mx=>x_with ?_⟩
 ·exact (fG_T _ _ _).trans (isV_is (allL_is q.1 x mx))
 ·exact (fG'_T _ _ _).trans (isV_is (allL_is q.2 x mx))
section
variable {sc:SC} {Φ:Fns} {m s l p:Nat} {r:Nat→Slot}
theorem w_s9 {d:Nat} (hd:d < 6) (h8:r 8=.val (.int (d:Int))):∃ pc,mailB pc=true∧c21s9.ex L8 (FW r)=some (.next (FW (upd r 42 (.val (.str pc))))):=by
 have key:∀ pc,mailB pc=true→c21s9.ex L8 (FW (upd r 8 (.val (.int (d:Int)))))=some (.next (FW (upd (upd r 8 (.val (.int (d:Int)))) 42 (.val (.str pc)))))→∃ pc,mailB pc=true∧c21s9.ex L8 (FW r)=some (.next (FW (upd r 42 (.val (.str pc))))):=fun pc a b=>⟨pc,a,by rw [upd_self h8] at b; exact b⟩
 have:d=0∨d=1∨d=2∨d=3∨d=4∨d=5:=by omega
 rcases this with rfl | rfl | rfl | rfl | rfl | rfl
 ·exact key _ t_mail0 (by kernel_rfl)
 ·exact key _ t_mail1 (by kernel_rfl)
 ·exact key _ t_mail2 (by kernel_rfl)
 ·exact key _ t_mail3 (by kernel_rfl)
 ·exact key _ t_mail4 (by kernel_rfl)
 ·exact key _ t_mail5 (by kernel_rfl)
theorem w_s10 (r:Nat→Slot):c21s10.ex L8 (FW r)=some (.next (FW (upd r 41 (.val (.lst []))))):=by kernel_rfl
theorem frzD {i:Nat} {k:SL sc} {ks:List Int} {fs:List PV} {o:Option Out} (hi:i < 43) (h:r i=.own (.d ks fs)) (e:k.ex Φ (FW (upd r i (.val (.dic ks fs))))=o):(SL.freezeD i k).ex Φ (FW r)=o:=bnd (sD (FW_get hi) h) (by rw [FW_set hi]; exact e)
theorem w_s11e (Φ:Fns) (r:Nat→Slot) (a b c d:PV):c21s11.ex Φ (FW (upd (upd (upd (upd r 12 (.val a)) 10 (.val b)) 16 (.val c)) 17 (.val d)))=(Φ.hi 20 (two fa0 fa1 (FW (upd (upd (upd (upd r 12 (.val a)) 10 (.val b)) 16 (.val c)) 17 (.val d)))) [a,b,c,d]).map fun v=>.next ((FW (upd (upd (upd (upd r 12 (.val a)) 10 (.val b)) 16 (.val c)) 17 (.val d))).set 28 (.val v)):=by kernel_rfl
theorem w_s11 (hm:Few m) (hs:3≤s∧s≤6) {e:En} (he:e∈TB m) (hz:sumN e.h=s) {ds:List Nat} (hd:ds.length=s) {pc:Str} (hp:mailB pc=true) (h12:r 12=.val (hv e.h)) (h10:r 10=.val (.lst (nv ds))) (h16:r 16=.val (shD m s)) (h17:r 17=.val (mrD m s)) (h41:r 41=.val (.lst [])) (h42:r 42=.val (.str pc)) :
  ∃ path,Path m e path∧path.length=s∧c21s11.ex L8 (FW r)=some (.next (FW (upd r 28 (.val (.tup [.lst (hv e.h::path.map fun x=>hv x.2.h),hv e.im]))))):=by
 obtain ⟨path,p1,p2,p3⟩:=image_fn (x_mail hp h41 h42) hm hs he hz hd
 refine ⟨path,p1,p2,?_⟩
 have q:=w_s11e L8 r (hv e.h) (.lst (nv ds)) (shD m s) (mrD m s)
 rw [upd_self h12,upd_self h10,upd_self h16,upd_self h17] at q
 rw [q,hi20,p3]
 exact congrArg (fun z=>some (Out.next z)) (FW_set (by decide))
theorem w_s17e (Φ:Fns) (r:Nat→Slot) (a b c d:PV):c21s17.ex Φ (FW (upd (upd (upd (upd r 30 (.val a)) 11 (.val b)) 16 (.val c)) 17 (.val d)))=(Φ.hi 20 (two fG fG' (FW (upd (upd (upd (upd r 30 (.val a)) 11 (.val b)) 16 (.val c)) 17 (.val d)))) [a,b,c,d]).map fun v=>.next ((FW (upd (upd (upd (upd r 30 (.val a)) 11 (.val b)) 16 (.val c)) 17 (.val d))).set 40 (.val v)):=by kernel_rfl
theorem w_s17 (hm:Few m) (hs:3≤s∧s≤6) {e:En} (he:e∈TB m) (hz:sumN e.h=s) {ds:List Nat} (hd:ds.length=s) (h30:r 30=.val (hv e.im)) (h11:r 11=.val (.lst (nv ds))) (h16:r 16=.val (shD m s)) (h17:r 17=.val (mrD m s)) :
  ∃ x,c21s17.ex L8 (FW r)=some (.next (FW (upd r 40 (.val (.tup [.lst x,hv e.h]))))):=by
 obtain ⟨e',me',b1,b2⟩:=(plain hm he).back
 obtain ⟨path,p1,p2,p3⟩:=image_fn (x_rule (FW r)) hm hs me' (by rw [b1,(plain hm he).sum]; exact hz) hd
 rw [b1,b2] at p3
 refine ⟨hv e.im::path.map fun x=>hv x.2.h,?_⟩
 have q:=w_s17e L8 r (hv e.im) (.lst (nv ds)) (shD m s) (mrD m s)
 rw [upd_self h30,upd_self h11,upd_self h16,upd_self h17] at q
 rw [q,hi20,p3]
 exact congrArg (fun z=>some (Out.next z)) (FW_set (by decide))
theorem w_s12 (r:Nat→Slot) (ts:List PV):c21s12.ex L8 (FW (upd (upd r 41 (.val (.lst []))) 28 (.val (.tup ts))))=some (.next (FW (upd (upd r 41 (.val (.lst []))) 28 (.val (.tup ts))))):=by kernel_rfl
theorem w_s13 (r:Nat→Slot) (a b:PV):c21s13.ex L8 (FW (upd r 28 (.val (.tup [a,b]))))=some (.next (FW (upd (upd (upd r 28 (.val (.tup [a,b]))) 29 (.val a)) 30 (.val b)))):=by kernel_rfl
end
end L
end Mine
end
section
open PySem PySem.W PyProof.Rows
namespace Mine
namespace L
noncomputable def flipL (h:List Nat):List Nat:=bif Nat.beq (Nat.mod h.length 2) 1 then h.reverse else h
noncomputable def leadO (s:Nat) (h:List Nat):Option PV:=(L8.fn 17 [.lst (nv h),.int (Int.ofNat s)]).bind fun x=>L8.fn 13 [x]
noncomputable def meO (f:Nat) (L:PV) (as:List PV):Option PV:=L.obj?.bind fun c=>bif Nat.beq c.1 nm.cls then L8.me f (L::as) else none
noncomputable def normO (L:PV):Option PV:=L.obj?.bind fun c=>bif Nat.beq c.1 nm.cls then c.2[3]? else none
noncomputable def zipO (h h':List Nat):Option (List PV):=bif fits (Nat.add (nv h').length 1) then (bif Nat.ble (nv h).length (nv h'++[PV.int 0]).length then some (zip2 (nv h) (nv h'++[PV.int 0])) else none) else none
noncomputable def ldV (s:Nat) (h:List Nat):PV:=Option.casesOn (motive:=fun _=>PV) (leadO s (flipL h)) .none id
noncomputable def ldB (r:Nat→Slot) (m s:Nat) (e:En):Bool:=or (Nat.blt s (sumN e.h)) (isV (c21k4.elt.ev L8 (.val (hv e.h)::FW (upd r 5 (.val (.int (Int.ofNat s)))))) (ldV s e.h))
noncomputable def tnB (r:Nat→Slot) (s:Nat) (h h':List Nat):Bool :=
 onO (zipO h h') fun xs=>onO ((compGo c21k6.tg c21k6.ifs c21k6.elt 2 L8 (FW (upd (upd r 5 (.val (.int (Int.ofNat s)))) 33 (.val (hv h)))) xs).bind fun ys=>bif fits ys.length then some ys else none) fun ws=>onO (ws[0]?) fun wd =>
 onO (c21k8.ev L8 (FW (upd (upd (upd r 5 (.val (.int (Int.ofNat s)))) 33 (.val (hv h))) 34 (.val wd)))) fun C =>
 onO (c21k9.ev L8 (FW (upd (upd (upd (upd r 5 (.val (.int (Int.ofNat s)))) 33 (.val (hv h))) 34 (.val wd)) 35 (.val (.lst C))))) fun D =>
 onO (lenX.ev L8 (FW (upd (upd (upd (upd (upd r 5 (.val (.int (Int.ofNat s)))) 33 (.val (hv h))) 34 (.val wd)) 35 (.val (.lst C))) 36 (.val (.lst D))))) fun Ls =>
 onO (cntX.ev L8 (FW (upd (upd (upd (upd (upd (upd r 5 (.val (.int (Int.ofNat s)))) 33 (.val (hv h))) 34 (.val wd)) 35 (.val (.lst C))) 36 (.val (.lst D))) 37 (.val Ls)))) fun Cn =>
 and (onO (meO 3 (ldV s h') [ldV s h]) fun w=>onO (neD.f w (.lst D)) not) (onO (normO (ldV s h)) fun n=>onO (neD.f n (.tup [Cn,.int 0])) not)
noncomputable def smB (s:Nat) (e:En):Bool:=onO ((L8.fn 17 [.lst (nv e.im).reverse,.int (Int.ofNat s)]).bind fun x=>L8.fn 13 [x]) fun I=>isV (meO 2 (ldV s e.h) [I]) (.bool (eqN e.h e.im))
noncomputable def isRet (o:Option Out):Bool:=onO o fun o=>Out.casesOn (motive:=fun _=>Bool) o (fun _=>false) (fun _=>false) fun q=>isV (some q) (.bool true)
noncomputable def endB (r:Nat→Slot) (x:PV) (e:En):Bool:=isRet (c21s18.ex L8 (FW (upd (upd (upd (upd r 39 (.val (.bool (eqN e.h e.im)))) 12 (.val (hv e.h))) 30 (.val (hv e.im))) 40 (.val (.tup [x,hv e.h])))))
noncomputable def turnB (r:Nat→Slot) (x:PV) (m s:Nat):Bool:=allL (fun e=>or (Nat.blt s (sumN e.h)) (and (ldB r m s e) (and (or (Nat.blt (sumN e.h) s) (and (smB s e) (endB r x e))) (allL (fun g=>tnB r s e.h g.n) e.gs)))) (TB m)
noncomputable def turnS (r:Nat→Slot) (x:PV) (m:Nat):Bool:=and (and (turnB r x m 3) (turnB r x m 4)) (and (turnB r x m 5) (turnB r x m 6))
theorem t_turn2 (r:Nat→Slot) (x:PV):turnS r x 2=true:=by kernel_rfl
theorem t_turn3 (r:Nat→Slot) (x:PV):turnS r x 3=true:=by kernel_rfl
theorem t_turn4 (r:Nat→Slot) (x:PV):turnS r x 4=true:=by kernel_rfl
end L
end Mine
end
section
open PySem PySem.W PyProof.Rows
namespace Mine
namespace L
section
variable {m s:Nat} {r:Nat→Slot}
theorem blt_no {a b:Nat} (h:b≤a):Nat.blt a b=false:=by
 cases c:Nat.blt a b with
 | true=>exact absurd (Nat.blt_eq.mp c) (by omega)
 | false=>rfl
theorem turn_at (hm:Few m) (hs:3≤s∧s≤6) (r:Nat→Slot) (x:PV) {e:En} (he:e∈TB m) (hz:sumN e.h≤s):isV (c21k4.elt.ev L8 (.val (hv e.h)::FW (upd r 5 (.val (.int (Int.ofNat s)))))) (ldV s e.h)=true∧(sumN e.h=s→smB s e=true∧endB r x e=true)∧∀ g∈e.gs,tnB r s e.h g.n=true:=by
 have q:turnS r x m=true:=by
  rcases hm with rfl | rfl | rfl
  ·exact t_turn2 r x
  ·exact t_turn3 r x
  ·exact t_turn4 r x
 have q:=and_is q
 have q:turnB r x m s=true:=by
  have:s=3∨s=4∨s=5∨s=6:=by omega
  rcases this with rfl | rfl | rfl | rfl
  ·exact (and_is q.1).1
  ·exact (and_is q.1).2
  ·exact (and_is q.2).1
  ·exact (and_is q.2).2
 have q:=allL_is q e he
 rw [blt_no hz] at q
 have q:=and_is (show and _ _=true from q)
 have q2:=and_is q.2
 refine ⟨?_,fun h=>?_,fun g mg=>allL_is q2.2 g mg⟩
 ·have q:=q.1
  unfold ldB at q
  rw [blt_no hz] at q
  exact q
 ·have q:=q2.1
  rw [blt_no (by omega)] at q
  exact and_is (show and _ _=true from q)
theorem scW {t:Tg} {c:Cp (D21.sc nm)} {pos:Pos} {h:t.ok (D21.sc nm)=true} {hs:∀ env:Env,env.scope.kind=.function→env.scope.names=(D21.sc nm).N→swapsWith c.e (some (.Name t.x t.p)) pos.line env=pure true} {Φ:Fns} {ys:List PV} (ht:t.i < 43) (e:c.ev Φ (FW r)=some ys):(SS.setComp false t c pos h hs).ex Φ (FW r)=some (.next (FW (upd r t.i (.val (.lst ys))))):=(mp e).trans (congrArg (fun z=>some (Out.next z)) (FW_set ht))
theorem k4_bind (σ:List Slot) (y:PV):c21k4.tg.bind y (unsets (compVars c21k4.scope).length σ)=some (.val y::σ):=rfl
theorem w_s14 (hm:Few m) (hs:3≤s∧s≤6) {es:List En} (hes:∀ e∈es,e∈TB m∧sumN e.h≤s) (hl:es.length≤100) (h5:r 5=.val (.int (s:Int))) (h29:r 29=.val (.lst (es.map fun e=>hv e.h))):c21s14.ex L8 (FW r)=some (.next (FW (upd r 31 (.val (.lst (es.map fun e=>ldV s e.h)))))):=by
 have k:c21k4.ev L8 (FW r)=some (es.map fun e=>ldV s e.h):=by
  refine cp_ev (xs:=es.map fun e=>hv e.h) (it_lst (sV (FW_get (r:=r) (i:=29) (by decide)) h29)) ?_ (by rw [List.length_map]; omega)
  refine comp_map (α:=En) (f:=fun e=>hv e.h) (g:=fun e=>ldV s e.h) fun e q=>⟨_,k4_bind _ _,rfl,?_⟩
  have q:=isV_is (turn_at hm hs r .none (hes e q).1 (hes e q).2).1
  have h5:r 5=.val (.int (Int.ofNat s)):=h5
  rw [upd_self h5] at q
  exact q
 exact scW (h:=by kernel_rfl) (hs:=swaps_comp (by kernel_rfl)) (by decide) k
theorem succ_ev {sc:SC} {Φ:Fns} {σ:List Slot} {a:SE sc} {i k:Nat} {p p':Pos} (h:a.ev Φ σ=some (.int (i:Int))):(SE.bin addII a (.int 1 k p) p').ev Φ σ=some (.int ((i+1:Nat):Int)):=ev2 (x:=.int (i:Int)) (y:=.int 1) h rfl rfl
theorem zipO_is {h h':List Nat} {xs:List PV} (e:zipO h h'=some xs):fits ((nv h').length+[PV.int 0].length)=true∧(bif Nat.ble (nv h).length (nv h'++[PV.int 0]).length then some (zip2 (nv h) (nv h'++[PV.int 0])) else none)=some xs:=by
 unfold zipO at e
 cases c:fits (Nat.add (nv h').length 1) with
 | false=>rw [c] at e; exact nomatch e
 | true=>rw [c] at e; exact ⟨rfl,e⟩
theorem addLL_f {a b:List PV} (z:fits (a.length+b.length)=true):addLL.f (.lst a) (.lst b)=some (.lst (a++b)):=cond_t z
theorem zip_ev {sc:SC} {Φ:Fns} {σ:List Slot} {x y:SE sc} {a b xs:List PV} {p1 p:Pos} {hg:isGlob sc "zip"=true} (h:x.ev Φ σ=some (.lst a)) (h':y.ev Φ σ=some (.lst b)) (z:(bif Nat.ble a.length b.length then some (zip2 a b) else none)=some xs):(SI.zip2 x y p1 p hg).ev Φ σ=some xs:=bnd h (bnd h' z)
theorem um_ev {σ:List Slot} {f:Nat} {x:Str} {o:SE (D21.sc nm)} {as:List (SE (D21.sc nm))} {p1 p:Pos} {hx:(D21.sc nm).nm.ms[f]?=some x} {hs:∀ x env t,attributeBase o.e x env t=t} {hl:(p1.endLine==p.line)=true} {hz:Nat.blt as.length 30=true} {L w:PV} {ps:List PV} (h:o.ev L8 σ=some L) (h':evL L8 σ as=some ps) (h'':meO f L ps=some w):(SE.umeth f x o as p1 p hx hs hl hz).ev L8 σ=some w:=by
 show (o.ev L8 σ).bind (fun v=>v.obj?.bind fun c=>bif Nat.beq c.1 nm.cls then (evL L8 σ as).bind fun ps=>L8.me f (v::ps) else none)=_
 rw [h,h']; exact h''
theorem norm_ev {σ:List Slot} {x:Str} {o:SE (D21.sc nm)} {p:Pos} {hx:fieldNames[3]?=some x} {hs:∀ x env t,attributeBase o.e x env t=t} {L w:PV} (h:o.ev L8 σ=some L) (h':normO L=some w):(SE.attr 3 x o p hx hs).ev L8 σ=some w:=bnd h h'
theorem not_t {o:Option Bool} (h:onO o not=true):o=some false:=by
 obtain ⟨b,e,h⟩:=onO_is h
 cases b with
 | true=>exact nomatch h
 | false=>exact e
theorem turn_step {St Ld:List PV} {i:Nat} {h h':List Nat} (hT:tnB r s h h'=true) (hi:i < 1000) (h5:r 5=.val (.int (s:Int))) (h29:r 29=.val (.lst St)) (h31:r 31=.val (.lst Ld)) (h32:r 32=.val (.int (i:Int))) (s0:St[i]?=some (hv h)) (s1:St[i+1]?=some (hv h')) (l0:Ld[i]?=some (ldV s h)) (l1:Ld[i+1]?=some (ldV s h')) :
  ∃ r',c21b3.ex L8 (FW r)=some (.next (FW r'))∧∀ j,j < 33∨39≤j→r' j=r j:=by
 have h5:r 5=.val (.int (Int.ofNat s)):=h5
 unfold tnB at hT
 rw [upd_self h5] at hT
 obtain ⟨xs,q1,hT⟩:=onO_is hT
 obtain ⟨ws,q2,hT⟩:=onO_is hT
 obtain ⟨wd,q3,hT⟩:=onO_is hT
 obtain ⟨C,q4,hT⟩:=onO_is hT
 obtain ⟨D,q5,hT⟩:=onO_is hT
 obtain ⟨Ls,q6,hT⟩:=onO_is hT
 obtain ⟨Cn,q7,hT⟩:=onO_is hT
 obtain ⟨qa,qb⟩:=and_is hT
 obtain ⟨w,q8,qa⟩:=onO_is qa
 obtain ⟨n,q9,qb⟩:=onO_is qb
 obtain ⟨z1,z2⟩:=zipO_is q1
 let R1:=upd r 33 (.val (hv h))
 let R2:=upd R1 34 (.val wd)
 let R3:=upd R2 35 (.val (.lst C))
 let R4:=upd R3 36 (.val (.lst D))
 let R5:=upd R4 37 (.val Ls)
 let R6:=upd R5 38 (.val Cn)
 refine ⟨R6,?_,fun j hj=>?_⟩
 ·refine seqN (σ':=FW R1) (st_ex (h:=by kernel_rfl) (hs:=fun _ _ _=>rfl) (by decide) (ev_idx (ev_of (vW (hm:=by kernel_rfl) (by decide) h29)) (vW (hm:=by kernel_rfl) (by decide) h32) (by omega) s0)) ?_
  refine seqN (σ':=FW R2) (st_ex (h:=by kernel_rfl) (hs:=fun _ _ _=>rfl) (r:=R1) (q:=wd) (by decide) (ev_idx (i:=0) (xs:=ws) (ev_of (ev_comp (bnd (a:=xs) ?_ q2))) rfl (by decide) q3)) ?_
  ·exact zip_ev (hg:=by kernel_rfl) (a:=nv h) (b:=nv h'++[.int 0]) (vW (hm:=by kernel_rfl) (r:=R1) (by decide) rfl) (ev2 (x:=.lst (nv h')) (y:=.lst [.int 0]) (ev_idx (ev_of (vW (hm:=by kernel_rfl) (r:=R1) (by decide) h29)) (succ_ev (vW (hm:=by kernel_rfl) (r:=R1) (by decide) h32)) (by omega) s1) rfl (addLL_f z1)) z2
  refine seqN (σ':=FW R3) (scW (h:=by kernel_rfl) (hs:=swaps_comp (by kernel_rfl)) (r:=R2) (by decide) q4) ?_
  refine seqN (σ':=FW R4) (scW (h:=by kernel_rfl) (hs:=swaps_comp (by kernel_rfl)) (r:=R3) (by decide) q5) ?_
  refine seqN (σ':=FW R5) (st_ex (h:=by kernel_rfl) (hs:=fun _ _ _=>rfl) (r:=R4) (by decide) q6) ?_
  refine seqN (σ':=FW R6) (st_ex (h:=by kernel_rfl) (hs:=fun _ _ _=>rfl) (r:=R5) (by decide) q7) ?_
  refine seqN (iteN (k:=false) (bnd (a:=false) (evc (x:=w) (y:=.lst D) (evX (um_ev (hx:=by kernel_rfl) (hs:=fun _ _ _=>rfl) (hl:=by kernel_rfl) (hz:=by kernel_rfl) (ev_idx (ev_of (vW (hm:=by kernel_rfl) (r:=R6) (by decide) h31)) (succ_ev (vW (hm:=by kernel_rfl) (r:=R6) (by decide) h32)) (by omega) l1) (evL1 (ev_idx (ev_of (vW (hm:=by kernel_rfl) (r:=R6) (by decide) h31)) (vW (hm:=by kernel_rfl) (r:=R6) (by decide) h32) (by omega) l0)) q8)) (evX (vW (hm:=by kernel_rfl) (r:=R6) (by decide) rfl)) (not_t qa))
   (evc (x:=n) (y:=.tup [Cn,.int 0]) (evX (norm_ev (hx:=by kernel_rfl) (hs:=fun _ _ _=>rfl) (ev_idx (ev_of (vW (hm:=by kernel_rfl) (r:=R6) (by decide) h31)) (vW (hm:=by kernel_rfl) (r:=R6) (by decide) h32) (by omega) l0) q9)) (evX (ev_tup (evL2 (vW (hm:=by kernel_rfl) (r:=R6) (by decide) rfl) rfl) (by show 2≤1000000; omega))) (not_t qb))) rfl) rfl
 ·show upd (upd (upd (upd (upd (upd r _ _) _ _) _ _) _ _) _ _) _ _ j=r j
  iterate 6 refine (upd_j (nbeq (by omega))).trans ?_
  rfl
noncomputable abbrev tBind:=(tg1 (sc:=D21.sc nm) ⟨32,"turn",(qz 362 8 12)⟩).bind
noncomputable def nl:Nat→Nat→List PV
 | 0,_=>[]
 | k+1,i=>.int (i:Int)::nl k (i+1)
theorem turn_loop (hm:Few m) (hs:3≤s∧s≤6) {St Ld:List PV}:∀ (path:List (Nat × En)) (e:En) (i:Nat) (r:Nat→Slot),Path m e path→e∈TB m→sumN e.h≤s→i+path.length≤100→(∀ k x,(e::path.map Prod.snd)[k]?=some x→St[i+k]?=some (hv x.h)∧Ld[i+k]?=some (ldV s x.h)) →
  r 5=.val (.int (s:Int))→r 29=.val (.lst St)→r 31=.val (.lst Ld)→∃ r',loopGo tBind (c21b3.ex L8) (nl path.length i) (FW r)=some (.next (FW r'))∧∀ j,j < 32∨39≤j→r' j=r j
 | [],e,i,r,_,_,_,_,_,_,_,_=>⟨r,rfl,fun _ _=>rfl⟩
 | (u,e')::path,e,i,r,⟨⟨g,mg,g1,g2,g3⟩,⟨me',z⟩,pp⟩,he,hz,hi,hk,h5,h29,h31=>by
  rw [List.length_cons] at hi
  have T:=(turn_at hm hs (upd r 32 (.val (.int (i:Int)))) .none he hz).2.2 g mg
  rw [g2] at T
  obtain ⟨r₁,e1,k1⟩:=turn_step (r:=upd r 32 (.val (.int (i:Int)))) T (by omega) h5 h29 h31 rfl (hk 0 e rfl).1 (hk 1 e' rfl).1 (hk 0 e rfl).2 (hk 1 e' rfl).2
  obtain ⟨r',e2,k2⟩:=turn_loop hm hs path e' (i+1) r₁ pp me' (by omega) (by omega) (fun k x q=>by
   have q:=hk (k+1) x q
   rw [show i+(k+1)=i+1+k by omega] at q
   exact q) ((k1 5 (by omega)).trans h5) ((k1 29 (by omega)).trans h29) ((k1 31 (by omega)).trans h31)
  exact ⟨r',loopN (congrArg some (FW_set (by decide))) e1 e2,fun j hj=>(k2 j hj).trans ((k1 j (by omega)).trans (upd_j (nbeq (by omega))))⟩
theorem w_s15it (Φ:Fns) (r:Nat→Slot) (hs:3≤s∧s≤6):(rg1 (sc:=D21.sc nm) (v 5 "size" (qz 362 22 26)) (qz 362 16 21) (qz 362 16 27)).ev Φ (FW (upd r 5 (.val (.int (s:Int)))))=some (nl s 0):=by
 have:s=3∨s=4∨s=5∨s=6:=by omega
 rcases this with rfl | rfl | rfl | rfl <;> kernel_rfl
theorem w_s15 (hm:Few m) (hs:3≤s∧s≤6) {path:List (Nat × En)} {e:En} (hp:Path m e path) (he:e∈TB m) (hz:sumN e.h≤s) (hl:path.length=s) (h5:r 5=.val (.int (s:Int))) (h29:r 29=.val (.lst ((e::path.map Prod.snd).map fun e=>hv e.h))) (h31:r 31=.val (.lst ((e::path.map Prod.snd).map fun e=>ldV s e.h))) :
  ∃ r',c21s15.ex L8 (FW r)=some (.next (FW r'))∧∀ j,j < 32∨39≤j→r' j=r j:=by
 obtain ⟨r',e1,k⟩:=turn_loop hm hs path e 0 r hp he hz (by omega) (fun k x q=>by
  rw [Nat.zero_add,List.getElem?_map,List.getElem?_map,q]; exact ⟨rfl,rfl⟩) h5 h29 h31
 refine ⟨r',?_,k⟩
 have q:=w_s15it L8 r hs
 rw [upd_self h5] at q
 rw [hl] at e1
 exact for_ex (h:=by kernel_rfl) q e1
end
end L
end Mine
end
section
open PySem PySem.W PyProof.Rows
namespace Mine
namespace L
noncomputable def imB (m:Nat):Bool:=allL (fun e=>Nat.ble e.im.length 100) (TB m)
theorem t_im:and (imB 2) (and (imB 3) (imB 4))=true:=by kernel_rfl
section
variable {m s:Nat} {r:Nat→Slot}
theorem w_s16 (hm:Few m) (hs:3≤s∧s≤6) {e:En} (he:e∈TB m) (hz:sumN e.h=s) {es:List PV} (h5:r 5=.val (.int (s:Int))) (h30:r 30=.val (hv e.im)) (h31:r 31=.val (.lst (ldV s e.h::es))):c21s16.ex L8 (FW r)=some (.next (FW (upd r 39 (.val (.bool (eqN e.h e.im)))))):=by
 have q:=((turn_at hm hs r .none he (by omega)).2.1 hz).1
 obtain ⟨I,i1,i2⟩:=onO_is q
 have hl:=Nat.ble_eq.mp (allL_is (Few.of (B:=imB) t_im hm) e he)
 refine onBind i1 fun x i3 i4=>?_
 exact st_ex (h:=by kernel_rfl) (hs:=fun _ _ _=>rfl) (by decide) (um_ev (hx:=by kernel_rfl) (hs:=fun _ _ _=>rfl) (hl:=by kernel_rfl) (hz:=by kernel_rfl) (L:=ldV s e.h) (ps:=[I]) (ev_idx (i:=0) (xs:=ldV s e.h::es) (ev_of (vW (hm:=by kernel_rfl) (by decide) h31)) rfl (by decide) rfl)
  (evL1 (callE (hx:=by kernel_rfl) (hg:=by kernel_rfl) (evL1 (callE (hx:=by kernel_rfl) (hg:=by kernel_rfl) (evL2 (rev_ev (xs:=nv e.im) (ev_of (vW (hm:=by kernel_rfl) (by decide) h30)) (by unfold nv; rw [List.length_map]; omega)) (vW (hm:=by kernel_rfl) (by decide) h5)) i3)) i4)) (isV_is i2))
theorem isRet_is {o:Option Out} (h:isRet o=true):o=some (.ret (.bool true)):=by
 obtain ⟨o,e,h⟩:=onO_is h
 rw [e]
 cases o with
 | next σ=>exact nomatch h
 | brk σ=>exact nomatch h
 | ret q=>rw [Option.some.inj (isV_is h)]
theorem w_s18 (hm:Few m) (hs:3≤s∧s≤6) {e:En} (he:e∈TB m) (hz:sumN e.h=s) {x:PV} (h39:r 39=.val (.bool (eqN e.h e.im))) (h12:r 12=.val (hv e.h)) (h30:r 30=.val (hv e.im)) (h40:r 40=.val (.tup [x,hv e.h])):c21s18.ex L8 (FW r)=some (.ret (.bool true)):=by
 have q:=((turn_at hm hs r x he (by omega)).2.1 hz).2
 unfold endB at q
 rw [upd_self h39,upd_self h12,upd_self h30,upd_self h40] at q
 exact isRet_is q
theorem path_in:∀ {path:List (Nat × En)} {e:En},Path m e path→e∈TB m→sumN e.h≤s→∀ x∈e::path.map Prod.snd,x∈TB m∧sumN x.h≤s
 | [],e,_,he,hz,x,q=>by rw [List.mem_singleton.mp q]; exact ⟨he,hz⟩
 | (u,e')::path,e,⟨_,⟨me',z⟩,pp⟩,he,hz,x,q=>by
  rcases List.mem_cons.mp q with rfl | q
  ·exact ⟨he,hz⟩
  ·exact path_in pp me' (by omega) x q
theorem lev9 (Φ:Fns) (p:PV):(lib.up Φ).fn 21 [p]=defEv D21 c21 Φ [p]:=by kernel_rfl
theorem def21 (Φ:Fns) (p:PV):defEv D21 c21 Φ [p]=(c21.ex Φ (FW (upd (fun _=>.unset) 0 (.val p)))).bind fun o=>Out.casesOn (motive:=fun _=>Option PV) o (fun _=>some .none) (fun _=>none) some:=by kernel_rfl
end
theorem pure2:Pure:=fun ns hn=>by
 refine (lev9 L8 _).trans ((def21 L8 _).trans ?_)
 let r0:Nat→Slot:=upd (fun _=>.unset) 0 (.val (.lst (ns.map .int)))
 suffices h:c21.ex L8 (FW r0)=some (.ret (.bool true)) by
  exact bnd h rfl
 refine seqN (w_s0 r0) ?_
 let r1:=upd r0 1 (own4 535 1296 199 48)
 obtain ⟨a,b,c,d,t,u,e1⟩:=w_s1 (r:=r1) hn rfl rfl
 refine seqN e1 ?_
 let r2:=upd (upd (upd r1 1 (own4 a b c d)) 2 t) 3 u
 obtain ⟨m',s',l,p,dr,⟨b1,b2,b3,b4,b5⟩,e2⟩:=w_s2 (r:=r2) (a:=a) (b:=b) (c:=c) (d:=d) rfl
 refine seqN e2 ?_
 let r3:=upd (upd (upd (upd (upd r2 4 (.val (.int (m':Int)))) 5 (.val (.int (s':Int)))) 6 (.val (.int (l:Int)))) 7 (.val (.int (p:Int)))) 8 (.val (.int (dr:Int)))
 have e3:=w_s3 r3 (m':Int) (s':Int)
 rw [upd_self (show r3 4=.val (.int (m':Int)) from rfl),upd_self (show r3 5=.val (.int (s':Int)) from rfl)] at e3
 refine seqN e3 ?_
 let r4:=upd (upd r3 4 (.val (.int ((m':Int)+2)))) 5 (.val (.int ((s':Int)+3)))
 have hm:Few (m'+2):=by
  have:m'=0∨m'=1∨m'=2:=by omega
  rcases this with rfl | rfl | rfl
  ·exact .inl rfl
  ·exact .inr (.inl rfl)
  ·exact .inr (.inr rfl)
 have hs:3≤s'+3∧s'+3≤6:=by omega
 have v4:r4 4=.val (.int ((m'+2:Nat):Int)):=rfl
 have v5:r4 5=.val (.int ((s'+3:Nat):Int)):=rfl
 obtain ⟨A,B,C,⟨kA,kB,kC⟩,e4⟩:=w_s4 (r:=r4) (a:=a) (b:=b) (c:=c) (d:=d) hs rfl v5
 refine seqN e4 ?_
 let r5:=upd (upd (upd r4 9 (.val (.lst (nv A)))) 10 (.val (.lst (nv B)))) 11 (.val (.lst (nv C)))
 refine seqN (w_s5 r5) ?_
 let r6:=upd r5 12 (.val (hv []))
 obtain ⟨e,me,z,r7,e6,j12,j⟩:=w_s6 (r:=r6) hm (ds:=A) (by omega) v4 rfl rfl
 have z:sumN e.h=s'+3:=z.trans kA
 refine seqN e6 ?_
 refine seqN (w_s7 r7) ?_
 let r8:=upd (upd r7 17 (.own (.d [] []))) 16 (.own (.d [] []))
 have k4:r7 4=.val (.int ((m'+2:Nat):Int)):=(j 4 (by omega)).trans v4
 have k5:r7 5=.val (.int ((s'+3:Nat):Int)):=(j 5 (by omega)).trans v5
 obtain ⟨r9,e8,i16,i17,i⟩:=w_s8 (r:=r8) hm hs b3 b4 k4 k5 ((j 6 (by omega)).trans rfl) ((j 7 (by omega)).trans rfl) rfl rfl
 refine seqN e8 ?_
 have g8:r9 8=.val (.int (dr:Int)):=(i 8 (by omega)).trans ((j 8 (by omega)).trans rfl)
 have g5:r9 5=.val (.int ((s'+3:Nat):Int)):=(i 5 (by omega)).trans k5
 have g10:r9 10=.val (.lst (nv B)):=(i 10 (by omega)).trans ((j 10 (by omega)).trans rfl)
 have g11:r9 11=.val (.lst (nv C)):=(i 11 (by omega)).trans ((j 11 (by omega)).trans rfl)
 have g12:r9 12=.val (hv e.h):=(i 12 (by omega)).trans j12
 clear_value r6
 obtain ⟨pc,mp9,e9⟩:=w_s9 b5 g8
 refine seqN e9 ?_
 refine seqN (w_s10 _) ?_
 let ra:=upd (upd r9 42 (.val (.str pc))) 41 (.val (.lst []))
 refine frzD (r:=ra) (by decide) i16 ?_
 let rb:=upd ra 16 (.val (shD (m'+2) (s'+3)))
 refine frzD (r:=rb) (by decide) i17 ?_
 let rc:=upd rb 17 (.val (mrD (m'+2) (s'+3)))
 obtain ⟨path,p1,p2,e11⟩:=w_s11 (r:=rc) hm hs me z kB mp9 g12 g10 rfl rfl rfl rfl
 refine seqN e11 ?_
 let rd:=upd rc 28 (.val (.tup [.lst (hv e.h::path.map fun x=>hv x.2.h),hv e.im]))
 have e12:=w_s12 rd [.lst (hv e.h::path.map fun x=>hv x.2.h),hv e.im]
 rw [upd_self (show rd 41=.val (.lst []) from rfl),upd_self (show rd 28=.val (.tup [.lst (hv e.h::path.map fun x=>hv x.2.h),hv e.im]) from rfl)] at e12
 refine seqN e12 ?_
 have e13:=w_s13 rd (.lst (hv e.h::path.map fun x=>hv x.2.h)) (hv e.im)
 rw [upd_self (show rd 28=.val (.tup [.lst (hv e.h::path.map fun x=>hv x.2.h),hv e.im]) from rfl)] at e13
 refine seqN e13 ?_
 let re:=upd (upd rd 29 (.val (.lst (hv e.h::path.map fun x=>hv x.2.h)))) 30 (.val (hv e.im))
 have st:(hv e.h::path.map fun x=>hv x.2.h)=(e::path.map Prod.snd).map fun e=>hv e.h:=by rw [List.map_cons,List.map_map]; rfl
 have f29:re 29=.val (.lst ((e::path.map Prod.snd).map fun e=>hv e.h)):=by rw [← st]; rfl
 have e14:=w_s14 (r:=re) (es:=e::path.map Prod.snd) hm hs (path_in p1 me (by omega)) (by rw [List.length_cons,List.length_map]; omega) g5 f29
 refine seqN e14 ?_
 let rf:=upd re 31 (.val (.lst ((e::path.map Prod.snd).map fun e=>ldV (s'+3) e.h)))
 obtain ⟨rg,e15,w⟩:=w_s15 (r:=rf) hm hs p1 me (by omega) p2 g5 f29 rfl
 refine seqN e15 ?_
 have h5:rg 5=.val (.int ((s'+3:Nat):Int)):=(w 5 (by omega)).trans g5
 have h30:rg 30=.val (hv e.im):=(w 30 (by omega)).trans rfl
 have h31:rg 31=.val (.lst (ldV (s'+3) e.h::(path.map Prod.snd).map fun e=>ldV (s'+3) e.h)):=(w 31 (by omega)).trans rfl
 refine seqN (w_s16 hm hs me z h5 h30 h31) ?_
 let rh:=upd rg 39 (.val (.bool (eqN e.h e.im)))
 have h12:rg 12=.val (hv e.h):=(w 12 (by omega)).trans g12
 obtain ⟨x,e17⟩:=w_s17 (r:=rh) hm hs me z kC h30 ((w 11 (by omega)).trans g11) ((w 16 (by omega)).trans rfl) ((w 17 (by omega)).trans rfl)
 refine seqN e17 ?_
 exact seq_ret (w_s18 (r:=upd rh 40 (.val (.tup [.lst x,hv e.h]))) hm hs me z rfl h12 h30 rfl)
end L
end Mine
end
set_option maxRecDepth 100000 in
theorem PySem.Challenge.cw_ux0036_02_holds : PySem.Challenge.rw_ux0036_02.Holds :=
 Mine.L.law2 Mine.L.pure2
