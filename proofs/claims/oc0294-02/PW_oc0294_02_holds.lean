import PyProof.Rows.All
import Wide.All
import OpenK.AllK
import Wide.FinOn
import PySem.Challenge.RW_oc0294_02
open PySem PySem.W PyProof.Rows PySem.Calls
set_option Elab.async false
set_option maxRecDepth 100000
set_option maxHeartbeats 0
set_option linter.all false
set_option genInjectivity false
set_option genSizeOf false
set_option genCtorIdx false
set_option compiler.extract_closed false
set_option tactic.hygienic false
open _root_.List renaming mem_append_right->nL,map_map->bz,mem_of_getElem?->eX,mem_map->aI,length_map->aE,getElem?_map->cM,forIn_cons->lN,getElem?_concat_length->nB,sum_cons->lZ,map_congr_left->pH,getElem?_eq_some_iff->cb,any_eq_true->pB,mem_append->be,getD_eq_getElem?_getD->rL,mem_singleton->aO,pairwise_cons->rN,append_assoc->eH,size_toArray->dJ,map_append->aY,length_cons->cN,getElem?_append_right->fF,drop_eq_getElem_cons->uS,mem_cons_of_mem->aT,not_mem_nil->e7,all_eq_true->j6,getElem?_toArray->gR,cons_ne_nil->pq,drop_eq_nil_iff->uI,take_of_length_le->ve,range'->j9,mem_map_of_mem->nr,range->bj,length_append->aP,take_append_of_le_length->vk,nodup_cons->c8,mem_cons_self->aN,mem_filter->l9,mem_cons->aG,toArray->aM,getElem?_append_left->cm,append_nil->nC,getElem?_set_self->j5,nodup_append->jm,map_inj_left->jr,map_cons->aL,replicate->dy,length_reverse->jn,getElem?_eq_none->lG,length_set->jl,lookup_cons->cK,nil_append->jo,mem_append_left->iI,getElem?_eq_getElem->dc,flatMap_cons->dz,drop_append_of_le_length->vj,mem_range->ke
open PySem renaming sizeLine_eq->ak,sizeLine->aH,wpAny_pure->ah,compEnvC->dM,OsState->au,mem_of_lookup->pb,wpAny_callSpecial?_slot->nI,wpAny_setState_of->gj,entryFor_of_tree->lK,strKind->aW,strLen_append->bQ,Env->aB,wpAny_setField->lH,builtinsNs->iA,Program->aK,FuncData->aU,foldedSetIterable->iD,Comprehension->gg,wpAny_holding->aQ,World->aA,model->af,DictEntry->dX,Around->aD,wpAny_isInstance->pG,wpAny_of_eq->jk,Expr->aF,standAt->dv,Params->aj,Thread->bA,denote->bJ,wpAny_bind->aa,wpAny_standAt->a9,wpAny_ite_true->iF,codeAny_builtin->gd,builtinLookup_eq_fast->nz,wpAny->ag,mainGlobals->cf,wpAny_newObj_type->gN,wpAny_call_entry->jj,isSubtype_type->fD,typeLookup_type->ny,fromIndex->bg,Stmt->aC,letOwnedTupleGo->j3,seg_bind_wrap->kh,wpAny_field->bf,wpAny_mono->eY,rawInt->bx,Shared->ae,wpAny_rule->fE,table->aX,wpAny_ite_false->da,callWith->du
open PySem.W renaming boot_drawn->bB,SharedT->aV
open _root_.Nat renaming le_trans->av,blt->dI,min_eq_left->nu,ne_of_gt->eF,add_comm->iG,le_of_ble_eq_true->eE,add_right_comm->nq,add_le_add_left->nj,add_le_add_right->lU,lt_of_lt_of_le->gb,zero_le->eJ,le_add_left->eb,zero_add->lP,lt_of_le_of_lt->c7,ne_of_lt->aS,mul_le_mul_right->lV,le_succ_of_le->lY,le_refl->aJ,le_of_eq->dK,le_of_lt->dq,le_add_right->dW,lt_succ_of_lt->lS
open _root_.Int renaming toNat_natCast->gh,fmod_nonneg_of_pos->lX,fmod_lt_of_pos->nK,natCast_nonneg->je
open PySem.Heap renaming lt_size->bP,get?_push_of_some->bH,get?_update_other->gS,SameBut->ba,ExtBut->gP,get?_update_self->eG,get?_push_size->cj
open PySem.NameKind renaming free->dN
open PySem.Builtin.Str renaming glued->d9,strSliceIndices->xT,occurrences->cL,lastOccurrence->vc,subAt->gi,tooLong->rE
open PySem.Builtin renaming bitAnd->j2
open PySem.Calls renaming Name_function_global->rv
open _root_.Bool renaming false_ne_true->nt,false_eq_true->rF,and_eq_true->fG,eq_iff_iff->iE
open _root_.Option renaming map_eq_some_iff->pA
open _root_.Array renaming getElem?_eq_getElem->vi,length_toList->ed,getElem?_eq_some_iff->lI,getD_eq_getD_getElem?->vq,replicate->nH
open PySem.SetTable.probe renaming go->pJ
open Classical renaming byContradiction->o8
open PySem.Value renaming ref->dZ
open PySem.SetTable.instReprSlot.repr renaming match_1->DD
open ForInStep renaming yield->pn
open PySem.ScopeKind renaming function->e8
open PySem.Heap.SameBut renaming update->gf
open Pure renaming pure->aq
open PySem.SetTable renaming bits->jq,sizeAbove->e9
open PySem.SetTable.layClean renaming free->yr
open PySem.Code renaming quiet_builtin->lL
open PySem.StrLaws renaming occBody->nJ
open PySem.PyData renaming keyHash->nG
open PySem.Str renaming ofString->gT,empty->gU
open PySem.Obj renaming mapFields->gc
namespace Mine
@[elab_as_elim] theorem Yl {α : Sort u} {a b : α} {motive : α -> Prop} (h : a = b) (e : motive b) : motive a := h▸e
@[elab_as_elim] theorem QD {α : Sort u} {a b : α} {motive : α -> Prop} (h : b = a) (e : motive b) : motive a := h▸e
theorem x02 {P Q C : Prop} (h : P /\ Q) (f : P -> Q -> C) : C := f h.1 h.2
theorem x03 {P Q R C : Prop} (h : P /\ Q /\ R) (f : P -> Q -> R -> C) : C := f h.1 h.2.1 h.2.2
theorem x04 {P Q R S C : Prop} (h : P /\ Q /\ R /\ S) (f : P -> Q -> R -> S -> C) : C := f h.1 h.2.1 h.2.2.1 h.2.2.2
theorem x11 {α : Sort u} {P : α -> Prop} {C : Prop} (h : ∃a, P a) (f : ∀a, P a -> C) : C := Exists.elim h f
theorem x12 {α : Sort u} {P Q : α -> Prop} {C : Prop} (h : ∃a, P a /\ Q a) (f : ∀a, P a -> Q a -> C) : C := x11 h λ a b => f a b.1 b.2
theorem x13 {α : Sort u} {P Q R : α -> Prop} {C : Prop} (h : ∃a, P a /\ Q a /\ R a) (f : ∀a, P a -> Q a -> R a -> C) : C := x11 h λ a b => f a b.1 b.2.1 b.2.2
theorem x21 {α : Sort u} {β : Sort v} {P : α -> β -> Prop} {C : Prop} (h : ∃a b, P a b) (f : ∀a b, P a b -> C) : C := x11 h λ a h => x11 h (f a)
theorem x22 {α : Sort u} {β : Sort v} {P Q : α -> β -> Prop} {C : Prop} (h : ∃a b, P a b /\ Q a b) (f : ∀a b, P a b -> Q a b -> C) : C := x21 h λ a b h => f a b h.1 h.2
theorem x23 {α : Sort u} {β : Sort v} {P Q R : α -> β -> Prop} {C : Prop} (h : ∃a b, P a b /\ Q a b /\ R a b) (f : ∀a b, P a b -> Q a b -> R a b -> C) : C := x21 h λ a b h => f a b h.1 h.2.1 h.2.2
theorem x24 {α : Sort u} {β : Sort v} {P Q R S : α -> β -> Prop} {C : Prop} (h : ∃a b, P a b /\ Q a b /\ R a b /\ S a b) (f : ∀a b, P a b -> Q a b -> R a b -> S a b -> C) : C := x21 h λ a b h => f a b h.1 h.2.1 h.2.2.1 h.2.2.2
theorem x32 {α : Sort u} {β : Sort v} {γ : Sort w} {P Q : α -> β -> γ -> Prop} {C : Prop} (h : ∃a b c, P a b c /\ Q a b c) (f : ∀a b c, P a b c -> Q a b c -> C) : C := x21 h λ a b h => x12 h (f a b)
theorem x33 {α : Sort u} {β : Sort v} {γ : Sort w} {P Q R : α -> β -> γ -> Prop} {C : Prop} (h : ∃a b c, P a b c /\ Q a b c /\ R a b c) (f : ∀a b c, P a b c -> Q a b c -> R a b c -> C) : C := x21 h λ a b h => x13 h (f a b)
theorem x42 {α : Sort u} {β : Sort v} {γ : Sort w} {δ : Sort x} {P Q : α -> β -> γ -> δ -> Prop} {C : Prop} (h : ∃a b c d, P a b c d /\ Q a b c d) (f : ∀a b c d, P a b c d -> Q a b c d -> C) : C := x21 h λ a b h => x22 h (f a b)
local macro_rules
 | `(tactic|obtain ⟨$ps,*⟩:$x:ident:=$t)=>do
  let q:Lean.TSyntaxArray `rintroPat:=ps.getElems.map λ p=>⟨Lean.mkNode ``Lean.Parser.Tactic.rintroPat.one #[p.raw[0]]⟩
  let s:=x.getId.toString.toList
  let y:=Lean.mkIdent (.mkSimple (String.ofList (s.take 3)))
  if s.length<4 then return <-`(tactic|(refine $y ($t :) ?_;(try clear ($t));rintro $q*))
  let n:=(s.take 3).foldl (λ n c=>if c=='x' then n else n+c.toNat-48) 0-1
  let z:=Lean.mkIdent `zr
  let r:=ps.getElems.extract n ps.getElems.size
  let k:Lean.TSyntaxArray `rintroPat:=q.extract 0 n
  `(tactic|(refine $y ($t :) ?_;(try clear ($t));rintro $k* $z:ident;obtain ⟨$r,*⟩:$(Lean.mkIdent (.mkSimple ("x"++String.ofList (s.drop 3)))):ident:=$z))
local macro_rules
 | `(tactic|obtain ⟨$ps,*⟩:=$t)=>do
  let x<-match ps.getElems.size with
   | 2=>aq `x11
   | 3=>aq `x12
   | 4=>aq `x22
   | 5=>aq `x23
   | 6=>aq `x33
   | 7=>aq `x3302
   | 8=>aq `x3303
   | 9=>aq `x4204
   | 10=>aq `x330402
   | _=>Lean.Macro.throwUnsupported
  `(tactic|obtain ⟨$ps,*⟩:$(Lean.mkIdent x):ident:=$t)
local macro_rules
 | `(tactic|rw[$rs,*])=>do
  let ts<-rs.getElems.mapM λ r=>if r.raw[1].isOfKind ``Lean.Parser.Term.paren then `(tactic|rewrite[$r]) else `(tactic|refine $(Lean.mkIdent (if r.raw[0].isNone then `Yl else `QD)) ($(⟨r.raw[1]⟩) ..) ?_)
  `(tactic|($[$ts]*;try with_reducible rfl))
theorem ww {a b c:Nat}(h:a<=b)(d:Nat.ble b c=true):a<=c:=av h (eE d)
theorem ia {a b c:Nat}(h:a<b)(d:Nat.ble b (c+1)=true):a<=c:=Nat.le_of_lt_succ (gb h (eE d))
theorem fK {a b c:Nat}(h:a<=b)(d:dI b c=true):a<c:=c7 h (eE d)
theorem zg {a k b:Nat}(h:a+k<=b):a<=b:=Nat.le_of_add_right_le h
theorem II {a k b:Nat}(h:a+k<b):a<b:=c7 (dW ..) h
theorem YU {a b c:Nat}(e:a=b)(h:b<=c):a<=c:=e▸h
theorem oF {a k:Nat}(h:dI 0 k=true):a+k≠a:=eF (Nat.lt_add_of_pos_right (eE h))
theorem tF {a k:Nat}(h:dI 0 k=true):a≠a+k:=aS (Nat.lt_add_of_pos_right (eE h))
theorem iL {a k j:Nat}(h:Nat.beq k j=false):a+k≠a+j:=λ e=>by
 have:=Nat.add_left_cancel e;subst this;rw[Nat.beq_refl] at h;cases h
theorem qh {k:Nat}:¬(k:Int)<0:=Int.not_lt.mpr (je k)
theorem XU {k n:Nat}{m:Int}(h:k<n)(d:decide ((n:Int)<=m)=true):(k:Int)<m:=Int.lt_of_lt_of_le (Int.ofNat_lt.mpr h) (of_decide_eq_true d)
theorem V9 {k n:Nat}{m:Int}(h:k<=n)(d:decide ((n:Int)<m)=true):(k:Int)<m:=Int.lt_of_le_of_lt (Int.ofNat_le.mpr h) (of_decide_eq_true d)
theorem bd {p:Prop}(h:¬p->False):p:=o8 h
set_option genCtorIdx true in
inductive PV where
 |none
 |bool (b:Bool)
 |int (i:Int)
 |str (s:Str)
 |tup (xs:List PV)
 |lst (xs:List PV)
 |ref (n:Nat)
 |obj (a:Addr)
 |typ (n:String)
 |blt (n:String)
 |eh (a b:Int)
 |TE (n:Nat)
 |eT (es:List (Int×PV))
 |vals (n:Nat)
 deriving Inhabited
inductive PO where
 |list (xs:List PV)
 |dict (es:List (Str×PV)) (ep:Option Nat)
 |set (xs:List Str)
 |iter (l:Nat) (i:Nat)
 |inst (C:Addr) (fs:List (Str×PV))
 |slots (C:Addr) (vs:List (Option PV))
 |tab (P:Addr) (pos:Pos) (q:Str)
 |gone
 deriving Inhabited
noncomputable def zQ (d:Addr):Obj:={cls:=.type "dict_values",data:=.fields #[.ref d]}
noncomputable def iM (it:Addr):Obj:={cls:=.type "method-wrapper",data:=.fields #[.builtin "list_iterator.__next__",.ref it]}
noncomputable def uy (l:Addr)(i:Nat):Obj:={cls:=.type "list_iterator",data:=.fields #[.ref l,.int i 0]}
abbrev Im:=Addr->Option Obj
abbrev wl:=List (List Addr)
theorem bu {a:α}{p:Prop}(h:none=some a):p:=nomatch h
mutual
inductive ce (I:Im)(ρ:wl):PV->Value->Prop
 |none:ce I ρ .none .none
 |bool (b):ce I ρ (.bool b) (.bool b)
 |int (i t):ce I ρ (.int i) (.int i t)
 |str (x t):ce I ρ (.str x) (.str x t)
 |tup {xs a items n}:I a=some {cls:=.type "tuple",data:=.seq (aM items) n}->lm I ρ xs items->ce I ρ (.tup xs) (.ref a)
 |lst {xs a items n}:I a=some {cls:=.type "list",data:=.seq (aM items) n}->lm I ρ xs items->ce I ρ (.lst xs) (.ref a)
 |ref {n:Nat}{a r}:ρ[n]? = some (a::r)->ce I ρ (.ref n) (.ref a)
 |obj (a):ce I ρ (.obj a) (.ref a)
 |typ (n):ce I ρ (.typ n) (.type n)
 |blt (n):ce I ρ (.blt n) (.builtin n)
 |TE {n:Nat}{a it r}:ρ[n]? = some (it::r)->I a=some (iM it)->ce I ρ (.TE n) (.ref a)
 |vals {n:Nat}{a d r}:ρ[n]? = some (d::r)->I a=some (zQ d)->ce I ρ (.vals n) (.ref a)
 |eT {es a ents n}:I a=some {cls:=.type "dict",data:=.dict (aM ents) n}->dH I ρ es ents->ce I ρ (.eT es) (.ref a)
 |eh {a b x t u v}:I x=some {cls:=.type "range",data:=.fields #[.int a t,.int b u,.int 1 v]}->ce I ρ (.eh a b) (.ref x)
inductive lm (I:Im)(ρ:wl):List PV->List Value->Prop
 |nil:lm I ρ [] []
 |cons {x v xs vs}:ce I ρ x v->lm I ρ xs vs->lm I ρ (x::xs) (v::vs)
inductive dH (I:Im)(ρ:wl):List (Int×PV)->List dX->Prop
 |nil:dH I ρ [] []
 |cons {k t x v xs vs}:ce I ρ x v->dH I ρ xs vs->dH I ρ ((k,x)::xs) (⟨hashInt k,.int k t,v⟩:: vs)
end
inductive bp (I:Im)(ρ:wl):List (Str×PV)->List dX->Prop
 |nil:bp I ρ [] []
 |cons {n h t x v xs vs}:ce I ρ x v->bp I ρ xs vs->bp I ρ ((n,x)::xs) (⟨h,.str n t,v⟩:: vs)
inductive Ty (I:Im)(ρ:wl):List (Option PV)->List (Option Value)->Prop
 |nil:Ty I ρ [] []
 |none {xs vs}:Ty I ρ xs vs->Ty I ρ (none::xs) (none::vs)
 |some {x v xs vs}:ce I ρ x v->Ty I ρ xs vs->Ty I ρ (some x::xs) (some v::vs)
def nw (I I':Im):Prop:=∀a o,I a=some o->I' a=some o
def pu (ρ ρ':wl):Prop:=∀(n:Nat) r,ρ[n]? = some r->ρ'[n]? = some r
theorem nw.refl (I):nw I I:=λ _ _ h=>h
theorem nw.trans {K}(a:nw I J)(b:nw J K):nw I K:=λ x o h=>b x o (a x o h)
theorem pu.refl (I):pu I I:=λ _ _ h=>h
theorem pu.trans {K}(a:pu I J)(b:pu J K):pu I K:=λ x o h=>b x o (a x o h)
noncomputable def J1 (vs:Array Value):Bool:=match vs.toList with
 |_::.str _ _::_=>true
 |_=>false
def iW (o:Obj):Prop:=match o.data with
 | .cell _=>False
 | .fields vs=>o.cls = .type "range"\/o.cls = .type "method-wrapper"\/o.cls = .type "dict_values"\/J1 vs=true
 |_=>True
def ib (I I':Im):Prop:=∀a o,I a=some o->iW o->I' a=some o
def iX (k:Nat)(ρ ρ':wl):Prop:=∀(n:Nat) r,n<k->ρ[n]? = some r->ρ'[n]? = some r
mutual
noncomputable def PV.lt (n:Nat):PV->Prop
 | .tup xs=>PV.TD n xs
 | .lst xs=>PV.TD n xs
 | .ref m=>m<n
 | .TE m=>m<n
 | .vals m=>m<n
 | .eT es=>PV.tM n es
 |_=>True
noncomputable def PV.TD (n:Nat):List PV->Prop
 | []=>True
 |x::xs=>PV.lt n x/\PV.TD n xs
noncomputable def PV.tM (n:Nat):List (Int×PV)->Prop
 | []=>True
 |(_,x)::xs=>PV.lt n x/\PV.tM n xs
end
noncomputable def PO.lt (n:Nat):PO->Prop
 | .list xs=>PV.TD n xs
 | .dict es _=>PV.TD n (es.map (·.2))
 | .iter l _=>l<n
 | .inst _ fs=>PV.TD n (fs.map (·.2))
 | .slots _ vs=>PV.TD n (vs.filterMap id)
 |_=>True
theorem ce.ind {P:PV->Value->Prop}{Q:List PV->List Value->Prop}{R:List (Int×PV)->List dX->Prop}
  (O:P .none .none) (J:∀b,P (.bool b) (.bool b)) (N:∀i t,P (.int i) (.int i t)) (D:∀x t,P (.str x) (.str x t))
  (L:∀{xs a items n},I a=some {cls:=.type "tuple",data:=.seq (aM items) n}->Q xs items->P (.tup xs) (.ref a))
  (T:∀{xs a items n},I a=some {cls:=.type "list",data:=.seq (aM items) n}->Q xs items->P (.lst xs) (.ref a))
  (G:∀{n:Nat}{a r},ρ[n]? = some (a::r)->P (.ref n) (.ref a)) (B:∀a,P (.obj a) (.ref a)) (C:∀n,P (.typ n) (.type n)) (yz:∀n,P (.blt n) (.builtin n))
  (yL:∀{n:Nat}{a it r},ρ[n]? = some (it::r)->I a=some (iM it)->P (.TE n) (.ref a))
  (zk:∀{n:Nat}{a d r},ρ[n]? = some (d::r)->I a=some (zQ d)->P (.vals n) (.ref a))
  (zD:∀{es a ents n},I a=some {cls:=.type "dict",data:=.dict (aM ents) n}->R es ents->P (.eT es) (.ref a))
  (Am:∀{a b x t u v},I x=some {cls:=.type "range",data:=.fields #[.int a t,.int b u,.int 1 v]}->P (.eh a b) (.ref x))
  (U:Q [] []) (q2:∀{x v xs vs},P x v->Q xs vs->Q (x::xs) (v::vs))
  (H:R [] []) (M:∀{k t x v xs vs},P x v->R xs vs->R ((k,x)::xs) (⟨hashInt k,.int k t,v⟩:: vs)):
  (∀{x v},ce I ρ x v->P x v)/\(∀{x v},lm I ρ x v->Q x v)/\∀{x v},dH I ρ x v->R x v:=
 ⟨ce.rec (motive_1:=λ x v _=>P x v) (motive_2:=λ x v _=>Q x v) (motive_3:=λ x v _=>R x v) O J N D (λ e _ r=>L e r) (λ e _ r=>T e r) G B C yz yL zk (λ e _ r=>zD e r) Am U (λ _ _ a b=>q2 a b) H (λ _ _ a b=>M a b),
  lm.rec (motive_1:=λ x v _=>P x v) (motive_2:=λ x v _=>Q x v) (motive_3:=λ x v _=>R x v) O J N D (λ e _ r=>L e r) (λ e _ r=>T e r) G B C yz yL zk (λ e _ r=>zD e r) Am U (λ _ _ a b=>q2 a b) H (λ _ _ a b=>M a b),
  dH.rec (motive_1:=λ x v _=>P x v) (motive_2:=λ x v _=>Q x v) (motive_3:=λ x v _=>R x v) O J N D (λ e _ r=>L e r) (λ e _ r=>T e r) G B C yz yL zk (λ e _ r=>zD e r) Am U (λ _ _ a b=>q2 a b) H (λ _ _ a b=>M a b)⟩
theorem pR {B:wl}{n:Nat}(h:B[n]? = some r):n<B.length:=(cb.mp h).1
theorem ce.pW:(∀{x v},ce I ρ x v->PV.lt ρ.length x)/\(∀{x v},lm I ρ x v->PV.TD ρ.length x)/\∀{x v},dH I ρ x v->PV.tM ρ.length x:=
 ce.ind trivial (λ _=>trivial) (λ _ _=>trivial) (λ _ _=>trivial) (λ _ h=>h) (λ _ h=>h) pR (λ _=>trivial) (λ _=>trivial) (λ _=>trivial) (λ h _=>pR h) (λ h _=>pR h) (λ _ h=>h) (λ _=>trivial) trivial And.intro trivial And.intro
theorem ce.g8 (B:ib I I')(C:iX k ρ ρ'):
  (∀{x v},ce I ρ x v->PV.lt k x->ce I' ρ' x v)/\(∀{x v},lm I ρ x v->PV.TD k x->lm I' ρ' x v)/\∀{x v},dH I ρ x v->PV.tM k x->dH I' ρ' x v:=
 ce.ind (P:=λ x v=>PV.lt k x->ce I' ρ' x v) (Q:=λ x v=>PV.TD k x->lm I' ρ' x v) (R:=λ x v=>PV.tM k x->dH I' ρ' x v)
  (λ _=>.none) (λ b _=>.bool b) (λ i t _=>.int i t) (λ x t _=>.str x t) (λ e f l=>.tup (B _ _ e trivial) (f l)) (λ e f l=>.lst (B _ _ e trivial) (f l))
  (λ e l=>.ref (C _ _ l e)) (λ a _=>.obj a) (λ a _=>.typ a) (λ a _=>.blt a) (λ e f l=>.TE (C _ _ l e) (B _ _ f (.inr (.inl rfl)))) (λ e f l=>.vals (C _ _ l e) (B _ _ f (.inr (.inr (.inl rfl)))))
  (λ e f l=>.eT (B _ _ e trivial) (f l)) (λ e _=>.eh (B _ _ e (.inl rfl))) (λ _=>.nil) (λ a b l=>.cons (a (And.left l)) (b (And.right l))) (λ _=>.nil) (λ a b l=>.cons (a (And.left l)) (b (And.right l)))
theorem ce.lt (h:ce I ρ x v):PV.lt ρ.length x:=ce.pW.1 h
theorem lm.lt (h:lm I ρ x v):PV.TD ρ.length x:=ce.pW.2.1 h
theorem bp.lt (H:bp I ρ x v):PV.TD ρ.length (x.map (·.2)):=by
 induction H with
 |nil=>exact trivial
 |cons a _ b=>exact And.intro a.lt b
theorem Ty.lt (H:Ty I ρ x v):PV.TD ρ.length (x.filterMap id):=by
 induction H with
 |nil=>exact trivial
 |none _ b=>exact b
 |some a _ b=>exact And.intro a.lt b
theorem bp.map (C:ib I I')(B:iX k ρ ρ')(H:bp I ρ x v):PV.TD k (x.map (·.2))->bp I' ρ' x v:=by
 induction H with
 |nil=>exact λ _=>.nil
 |cons a _ b=>exact λ l=>.cons ((ce.g8 C B).1 a (And.left l)) (b (And.right l))
theorem Ty.map (C:ib I I')(B:iX k ρ ρ')(H:Ty I ρ x v):PV.TD k (x.filterMap id)->Ty I' ρ' x v:=by
 induction H with
 |nil=>exact λ _=>.nil
 |none _ b=>exact λ l=>.none (b l)
 |some a _ b=>exact λ l=>.some ((ce.g8 C B).1 a (And.left l)) (b (And.right l))
theorem nw.seq (h:nw I I'):ib I I':=λ _ _ e _=>h _ _ e
theorem pu.to (h:pu ρ ρ'):iX k ρ ρ':=λ _ _ _ e=>h _ _ e
theorem ce.mono (C:nw I I')(B:pu ρ ρ')(h:ce I ρ x v):ce I' ρ' x v:=(ce.g8 C.seq B.to).1 h h.lt
theorem lm.mono (C:nw I I')(B:pu ρ ρ')(h:lm I ρ x v):lm I' ρ' x v:=(ce.g8 C.seq B.to).2.1 h h.lt
noncomputable def GA (I:Im)(ρ:wl):PV->Value->Prop
 | .none,v=>v = .none
 | .bool b,v=>v = .bool b
 | .int i,v=>∃t,v = .int i t
 | .str x,v=>∃t,v = .str x t
 | .tup xs,v=>∃a items n,v = .ref a/\I a=some {cls:=.type "tuple",data:=.seq (aM items) n}/\lm I ρ xs items
 | .lst xs,v=>∃a items n,v = .ref a/\I a=some {cls:=.type "list",data:=.seq (aM items) n}/\lm I ρ xs items
 | .ref n,v=>∃a r,v = .ref a/\ρ[n]? = some (a::r)
 | .obj a,v=>v = .ref a
 | .typ n,v=>v = .type n
 | .blt n,v=>v = .builtin n
 | .TE n,v=>∃a it r,v = .ref a/\ρ[n]? = some (it::r)/\I a=some (iM it)
 | .vals n,v=>∃a d r,v = .ref a/\ρ[n]? = some (d::r)/\I a=some (zQ d)
 | .eT es,v=>∃a ents n,v = .ref a/\I a=some {cls:=.type "dict",data:=.dict (aM ents) n}/\dH I ρ es ents
 | .eh a b,v=>∃x t u w,v = .ref x/\I x=some {cls:=.type "range",data:=.fields #[.int a t,.int b u,.int 1 w]}
theorem ce.inv (h:ce I ρ x v):GA I ρ x v:=
 ce.casesOn (motive_1:=λ x v _=>GA I ρ x v) h rfl (λ _=>rfl) (λ _ _=>⟨_,rfl⟩) (λ _ _=>⟨_,rfl⟩) (λ a b=>⟨_,_,_,rfl,a,b⟩) (λ a b=>⟨_,_,_,rfl,a,b⟩) (λ a=>⟨_,_,rfl,a⟩)
  (λ _=>rfl) (λ _=>rfl) (λ _=>rfl) (λ a b=>⟨_,_,_,rfl,a,b⟩) (λ a b=>⟨_,_,_,rfl,a,b⟩) (λ a b=>⟨_,_,_,rfl,a,b⟩) (λ a=>⟨_,_,_,_,rfl,a⟩)
noncomputable def Fi (I:Im)(ρ:wl):List PV->List Value->Prop
 | [],vs=>vs=[]
 |x::xs,vs=>∃u us,vs=u::us/\ce I ρ x u/\lm I ρ xs us
theorem lm.inv (h:lm I ρ xs vs):Fi I ρ xs vs:=lm.casesOn (motive_2:=λ xs vs _=>Fi I ρ xs vs) h rfl (λ a b=>⟨_,_,rfl,a,b⟩)
noncomputable def F8 (I:Im)(ρ:wl):List (Int×PV)->List dX->Prop
 | [],es=>es=[]
 |(k,x)::xs,es=>∃t v vs,es=⟨hashInt k,.int k t,v⟩:: vs/\ce I ρ x v/\dH I ρ xs vs
theorem dH.inv (h:dH I ρ xs vs):F8 I ρ xs vs:=dH.casesOn (motive_3:=λ xs vs _=>F8 I ρ xs vs) h rfl (λ a b=>⟨_,_,_,rfl,a,b⟩)
noncomputable def Iz (I:Im)(ρ:wl):List (Str×PV)->List dX->Prop
 | [],es=>es=[]
 |(n,x)::xs,es=>∃h t v vs,es=⟨h,.str n t,v⟩:: vs/\ce I ρ x v/\bp I ρ xs vs
theorem bp.inv (h:bp I ρ xs vs):Iz I ρ xs vs:=bp.casesOn (motive:=λ xs vs _=>Iz I ρ xs vs) h rfl (λ a b=>⟨_,_,_,_,rfl,a,b⟩)
theorem lm.length:∀{xs vs},lm I ρ xs vs->xs.length=vs.length:=by
 intro xs
 induction xs with
 |nil=>exact λ h=>h.inv▸rfl
 |cons _ _ B=>intro _ h;obtain⟨_,_,e,_,b⟩:=h.inv;exact e▸congrArg (· + 1) (B b)
theorem v9 {P:List (Str×PV)->List (Str×Value)->Prop}(h0:P [] [])(D:∀{k x v es kvs},ce I ρ x v->P es kvs->P ((k,x)::es) ((k,v)::kvs)):∀{es kvs},es.map (·.1)=kvs.map (·.1)->lm I ρ (es.map (·.2)) (kvs.map (·.2))->P es kvs:=by
 intro es
 induction es with
 |nil=>intro kvs h _;obtain rfl:=List.map_eq_nil_iff.mp h.symm;exact h0
 |cons p es B=>
  intro kvs h r
  cases kvs with
  |nil=>cases h
  |cons H kvs=>
   obtain(⟨k,x⟩):=p;obtain(⟨G,v⟩):=H;obtain⟨_,_,q,a,b⟩:=r.inv;have e:k=G:=(List.cons.inj h).1;have B:=B (List.cons.inj h).2 ((List.cons.inj q).2▸b);have C:v=_:=(List.cons.inj q).1;rw[<-C] at a;subst e;exact D a B
theorem lm.append:∀{xs vs},lm I ρ xs vs->lm I ρ ys us->lm I ρ (xs++ys) (vs++us):=by
 intro xs
 induction xs with
 |nil=>exact λ h k=>h.inv▸k
 |cons _ _ B=>intro _ h k;obtain⟨_,_,e,a,b⟩:=h.inv;exact e▸.cons a (B b k)
theorem lm.get:∀{xs vs},lm I ρ xs vs->∀{i:Nat}{x},xs[i]? = some x->∃v,vs[i]? = some v/\ce I ρ x v:=by
 intro xs
 induction xs with
 |nil=>intro _ _ _ _ e;cases e
 |cons _ _ B=>
  intro _ h i _ e;obtain⟨_,_,e2,a,b⟩:=h.inv;subst e2
  cases i with
  |zero=>exact⟨_,rfl,Option.some.inj e▸a⟩
  |succ i=>exact B b e
section
variable (pg:aK)(w:aA)
noncomputable def xI (I:Im)(pos:Pos)(q:Str)(ps:List Value):Prop:=TriplesOk ps/\(codeAmong pos ps=none\/∃c oc vs t,codeAmong pos ps=some (.ref c)/\I c=some oc/\oc.data = .fields vs/\vs[1]? = some (.str q t))
theorem xI.seq {I C:Im}(h:xI I pos q ps)(H:ib I C):xI C pos q ps:=by
 obtain⟨a,h⟩:x02:=h;refine⟨a,h.elim .inl λ h=>.inr ?_⟩;obtain⟨c,L,G,t,J,M,D,B⟩:x4203:=h;refine⟨c,L,G,t,J,H _ _ M ?_,D,B⟩;unfold iW;rw[D];refine .inr (.inr (.inr ?_));obtain⟨l⟩:=G
 rcases l with _|⟨a,_|⟨b,l⟩⟩<;>first|(cases B;rfl)|cases B
noncomputable def cY (I:Im)(ρ:wl)(h:Heap):PO->List Addr->Prop
 | .list xs,as=>∃a items n,as=[a]/\IsL h a (aM items) n/\lm I ρ xs items
 | .dict es ep,as=>∃a kvs e,as=[a]/\h.DictAt (strKind pg w) a kvs e/\(∀e',ep=some e'->e=e')/\es.map (·.1)=kvs.map (·.1)/\lm I ρ (es.map (·.2)) (kvs.map (·.2))
 | .set xs,as=>∃a n,as=[a]/\h.SetOf (strKind pg w) a (λ k=>decide (k∈xs)) n/\n=xs.length
 | .iter l i,as=>∃a b r,as=[a]/\ρ[l]? = some (b::r)/\h.get? a=some (uy b i)
 | .inst C fs,as=>∃x dx es n,as=[x,dx]/\h.get? x=some {cls:=.ref C,dict:=some dx,data:=.plain}/\h.get? dx=some {cls:=.type "dict",data:=.dict (aM es) n}/\bp I ρ fs es
 | .slots C vs,as=>∃x dx sl,as=[x,dx]/\h.get? x=some {cls:=.ref C,dict:=some dx,data:=.plain,slots:=aM sl}/\h.get? dx=some {cls:=.type "dict",data:=.dict #[]}/\Ty I ρ vs sl
 | .tab P pos q,as=>∃ps,as=[P]/\h.get? P=some (tabObj ps)/\xI I pos q ps.toList
 | .gone,as=>∃a o,as=[a]/\h.get? a=some o
variable {pg w} in
theorem cY.map (J:ib I I')(G:iX k ρ ρ')(B:∀a∈as,∀N,h.get? a=some N->h'.get? a=some N)(H:cY pg w I ρ h o as)(l:PO.lt k o):cY pg w I' ρ' h' o as:=by
 cases o with
 |list=>obtain⟨a,D,n,q,e,V⟩:=H;exact⟨a,D,n,q,B a (q▸.head _) _ e,(ce.g8 J G).2.1 V l⟩
 |dict=>obtain⟨a,O,n,q,e,Z,C,M⟩:=H;exact⟨a,O,n,q,e.at' (λ o Q=>B a (q▸.head _) _ Q),Z,C,(ce.g8 J G).2.1 M l⟩
 |gone=>obtain⟨a,o,q,e⟩:=H;exact⟨a,o,q,B a (q▸.head _) _ e⟩
 |tab=>obtain⟨Y,q,e,r⟩:x13:=H;exact⟨Y,q,B _ (q▸.head _) _ e,r.seq J⟩
 |set=>obtain⟨a,n,q,⟨N,R,E,t,e,r⟩,C⟩:=H;exact⟨a,n,q,⟨N,R,E,t,B a (q▸.head _) _ e,r⟩,C⟩
 |iter=>obtain⟨a,b,r,q,C,e⟩:=H;exact⟨a,b,r,q,G _ _ l C,B a (q▸.head _) _ e⟩
 |inst=>obtain⟨x,L,U,n,q,C,M,T⟩:x4203:=H;exact⟨x,L,U,n,q,B x (q▸.head _) _ C,B L (q▸.tail _ (.head _)) _ M,T.map J G l⟩
 |slots=>obtain⟨x,L,A,q,C,M,T⟩:=H;exact⟨x,L,A,q,B x (q▸.head _) _ C,B L (q▸.tail _ (.head _)) _ M,T.map J G l⟩
variable {pg w} in
theorem cY.lt (H:cY pg w I ρ h o as):PO.lt ρ.length o:=by
 cases o with
 |list|dict|inst|slots=>obtain(⟨_,_,_,_,_,H⟩):=H;first|exact H.lt|exact H.2.lt|exact H.2.2.lt
 |gone|set|tab=>trivial
 |iter=>obtain⟨_,_,_,_,H,_⟩:=H;exact pR H
theorem cY.mono (D:nw I I')(C:pu ρ ρ')(G:∀a∈as,∀B,h.get? a=some B->h'.get? a=some B)(H:cY pg w I ρ h o as):cY pg w I' ρ' h' o as:=H.map D.seq C.to G H.lt
structure Do (I:Im)(ρ:wl)(ph:List PO)(h:Heap):Prop where
 lw:∀a o,I a=some o->h.get? a=some o
 len:ρ.length=ph.length
 obj:∀(n:Nat) o as,ph[n]? = some o->ρ[n]? = some as->cY pg w I ρ h o as
 wv:ρ.flatten.Nodup
 out:∀a∈ρ.flatten,I a=none/\∃o,h.get? a=some o
structure IO (ew:aB)(loc:List (Str×PV))(I:Im)(ρ:wl)(h:Heap):Prop where
 ns:∃m,h.Ns ew.locals m/\∀x v,loc.lookup x=some v->ew.kindOf x=some .local->∃u,m x=some u/\ce I ρ v u
 cell:∀x c,ew.cells.lookup x=some c->∃u,h.IsCell c u/\∀v,loc.lookup x=some v->ew.kindOf x=some .cell\/ew.kindOf x=some .free->∃u',u=some u'/\ce I ρ v u'
 bt:I ew.locals=none/\ew.locals∉ρ.flatten
 cout:∀x c,ew.cells.lookup x=some c->(ew.func.isSome=true->I c=none)/\c∉ρ.flatten/\c≠ew.locals
 apart:∀x y c,ew.cells.lookup x=some c->ew.cells.lookup y=some c->x=y
theorem IO.weaken {ln}(F:IO ew loc I ρ h)(B:∀x v,ln.lookup x=some v->loc.lookup x=some v):IO ew ln I ρ h:=
 ⟨by obtain⟨m,a,b⟩:=F.ns;exact ⟨m,a,λ x v e k=>b x v (B x v e) k⟩,λ x c e=>by obtain⟨u,a,b⟩:=F.cell x c e;exact ⟨u,a,λ v e k=>b v (B x v e) k⟩,F.bt,F.cout,F.apart⟩
end
structure PS where
 loc:List (Str×PV)
 ph:List PO
 fs:List (Addr×Data)
def jA (ew:aB)(a:Addr):Prop:=a=ew.locals\/∃x,ew.cells.lookup x=some a
def fz (ew:aB)(fs:List (Addr×Data))(I:Im)(ρ:wl)(h:Heap):Prop:=
 ∀p∈fs,(∃o,h.get? p.1=some o/\o.data=p.2)/\I p.1=none/\p.1∉ρ.flatten/\¬jA ew p.1
structure ut (ew:aB):Prop where
 kind:ew.scope.kind = .function
 glob:ew.globals=cf
 blt:ew.builtins=iA
section
variable (pg:aK)(w:aA)(V:Im)
structure OK (ew:aB)(st:PS)(I:Im)(ρ:wl)(s:ae):Prop where
 inv:Do pg w I ρ st.ph s.heap
 fr:IO ew st.loc I ρ s.heap
 gens:s.gens = #[]
 top:nw V I
 No:fz ew st.fs I ρ s.heap
def ZB (ew:aB)(bv:PS)(r:PV)(I:Im)(ρ:wl)(s:ae)(Q:Value->ae->Prop):Prop:=
 ∀I' ρ' s' v,nw I I'->pu ρ ρ'->OK pg w V ew bv I' ρ' s'->s'.os=s.os->ce I' ρ' r v->Q v s'
def gx (ew:aB)(bv:PS)(I:Im)(ρ:wl)(s:ae)(Q:ae->Prop):Prop:=
 ∀I' ρ' s',nw I I'->pu ρ ρ'->OK pg w V ew bv I' ρ' s'->s'.os=s.os->Q s'
variable {pg w V}
theorem ZB.at {bv}(h:ZB pg w V ew bv r I ρ s Q)(C:nw I I')(B:pu ρ ρ')(D:s'.os=s.os):ZB pg w V ew bv r I' ρ' s' Q:=
 λ _ _ _ _ a b c d e=>h _ _ _ _ (C.trans a) (B.trans b) c (d.trans D) e
theorem gx.at {bv}(h:gx pg w V ew bv I ρ s Q)(C:nw I I')(B:pu ρ ρ')(D:s'.os=s.os):gx pg w V ew bv I' ρ' s' Q:=
 λ _ _ _ a b c d=>h _ _ _ (C.trans a) (B.trans b) c (d.trans D)
theorem ZB.here {st}(h:ZB pg w V ew st r I ρ s Q)(k:OK pg w V ew st I ρ s)(B:ce I ρ r v):Q v s:=
 h _ _ _ _ (.refl _) (.refl _) k rfl B
theorem OK.toks {st}(h:OK pg w V ew st I ρ s):OK pg w V ew st I ρ {s with toks:=k}:=⟨h.inv,h.fr,h.gens,h.top,h.No⟩
theorem ZB.toks {st}(h:ZB pg w V ew st r I ρ s Q)(q:OK pg w V ew st I ρ s)(B:ce I ρ r v):Q v {s with toks:=k}:=
 h _ _ _ _ (.refl _) (.refl _) q.toks rfl B
variable (pg w V)
def EJ (A:aD)(ew:aB)(e:aF)(st bv:PS)(r:PV):Prop:=
 ∀I ρ s Q E,OK pg w V ew st I ρ s->ZB pg w V ew bv r I ρ s Q->ag (af pg w) A (eval e ew) Q E s
def TJ (A:aD)(ew:aB)(e:aF)(st bv:PS)(b:Bool):Prop:=
 ∀I ρ s Q E,OK pg w V ew st I ρ s->gx pg w V ew bv I ρ s (Q b)->ag (af pg w) A (isTrue e ew (eval e ew)) Q E s
def BJ (A:aD)(ew:aB)(op:Operator)(a b:PV)(st bv:PS)(r:PV):Prop:=
 ∀I ρ s Q E u v,OK pg w V ew st I ρ s->ce I ρ a u->ce I ρ b v->ZB pg w V ew bv r I ρ s Q->ag (af pg w) A (binaryOp op u v) Q E s
def CJ (A:aD)(ew:aB)(op:CmpOp)(a b:PV)(st:PS)(r:Bool):Prop:=
 ∀I ρ s Q E u v,OK pg w V ew st I ρ s->ce I ρ a u->ce I ρ b v->ZB pg w V ew st (.bool r) I ρ s Q->ag (af pg w) A (compareOp op u v) Q E s
set_option genCtorIdx true in
inductive i6 where
 |next|brk|cont|ret (v:PV)
inductive mJ (I:Im)(ρ:wl):i6->Flow->Prop
 |next:mJ I ρ .next .next
 |brk:mJ I ρ .brk .brk
 |cont:mJ I ρ .cont .cont
 |ret {r v}:ce I ρ r v->mJ I ρ (.ret r) (.ret v)
noncomputable def Ja (I:Im)(ρ:wl):i6->Flow->Prop
 | .next,g=>g = .next
 | .brk,g=>g = .brk
 | .cont,g=>g = .cont
 | .ret r,g=>∃v,g = .ret v/\ce I ρ r v
theorem mJ.inv (h:mJ I ρ f g):Ja I ρ f g:=mJ.casesOn (motive:=λ f g _=>Ja I ρ f g) h rfl rfl rfl λ a=>⟨_,rfl,a⟩
def iJ (ew:aB)(bv:PS)(f:i6)(I:Im)(ρ:wl)(s:ae)(Q:Flow->ae->Prop):Prop:=
 ∀I' ρ' s' g,nw I I'->pu ρ ρ'->OK pg w V ew bv I' ρ' s'->s'.os=s.os->mJ I' ρ' f g->Q g s'
def XJ (A:aD)(ew:aB)(ss:List aC)(st bv:PS)(f:i6):Prop:=
 ∀I ρ s Q E,OK pg w V ew st I ρ s->iJ pg w V ew bv f I ρ s Q->ag (af pg w) A (execs ss ew) Q E s
def SJ (A:aD)(ew:aB)(ss:aC)(st bv:PS)(f:i6):Prop:=
 ∀I ρ s Q E,OK pg w V ew st I ρ s->iJ pg w V ew bv f I ρ s Q->ag (af pg w) A (exec ss ew) Q E s
variable {pg w V}
theorem iJ.at {bv}(h:iJ pg w V ew bv f I ρ s Q)(C:nw I I')(B:pu ρ ρ')(D:s'.os=s.os):iJ pg w V ew bv f I' ρ' s' Q:=
 λ _ _ _ _ a b c d e=>h _ _ _ _ (C.trans a) (B.trans b) c (d.trans D) e
variable {A:aD}{ew:aB}{st al bi lv:PS}
theorem EJ.ci:EJ pg w V A ew (.Constant (.int i) k pos) st st (.int i):=
 λ _ _ _ _ _ h q=>wpAny_Constant_int (q.toks h (.int _ _))
theorem EJ.loc (hx:st.loc.lookup x=some v)(B:ew.kindOf x=some .local)(K:ut ew)(H:(x==("__debug__" : Str))=false:=by decide):
  EJ pg w V A ew (.Name x pos) st st v:=λ I L s Q E h q=>by
 obtain⟨m,C,D⟩:=h.fr.ns;obtain⟨u,G,J⟩:=D x v hx B;exact wpAny_Name (wpAny_loadName_local K.kind B C G (q.here h J)) H
theorem EJ.bin (M:EJ pg w V A ew l st al a)(J:EJ pg w V A ew r al bi b)(L:BJ pg w V A ew op a b bi lv c):
  EJ pg w V A ew (.BinOp l op r pos) st lv c:=λ I Z s Q E h q=>
 wpAny_BinOp (M _ _ _ _ _ h λ U N d u dG zn O C H=>J _ _ _ _ _ O λ T B Y v cI cR R D G=>
  L _ _ _ _ _ _ _ R (H.mono cI cR) G (q.at (dG.trans cI) (zn.trans cR) (D.trans C)))
theorem BJ.add_int:BJ pg w V A ew .Add (.int a) (.int b) st st (.int (a+b)):=λ I D s Q E u v h B C q=>by
 obtain⟨_,rfl⟩:=B.inv;obtain⟨_,rfl⟩:=C.inv;exact PyProof.Rows.add_int (q.toks h (.int _ _))
theorem BJ.sub_int:BJ pg w V A ew .Sub (.int a) (.int b) st st (.int (a - b)):=λ I D s Q E u v h B C q=>by
 obtain⟨_,rfl⟩:=B.inv;obtain⟨_,rfl⟩:=C.inv;exact PyProof.Rows.sub_int (q.toks h (.int _ _))
theorem BJ.and_int:BJ pg w V A ew .BitAnd (.int a) (.int b) st st (.int (j2 a b)):=λ I D s Q E u v h B C q=>by
 obtain⟨_,rfl⟩:=B.inv;obtain⟨_,rfl⟩:=C.inv;exact PyProof.Rows.and_int (q.toks h (.int _ _))
theorem XJ.nil:XJ pg w V A ew [] st st .next:=λ _ _ _ _ _ h q=>wpAny_execs_nil (q _ _ _ _ (.refl _) (.refl _) h rfl .next)
theorem XJ.cons (C:SJ pg w V A ew c st al .next)(B:XJ pg w V A ew rest al bi f):XJ pg w V A ew (c::rest) st bi f:=
 λ _ _ _ _ _ h q=>wpAny_execs_cons (C _ _ _ _ _ h λ _ _ _ g a b c d e=>by obtain rfl:=e.inv;exact B _ _ _ _ _ c (q.at a b d))
theorem XJ.ret (B:SJ pg w V A ew c st al (.ret r)):XJ pg w V A ew (c::rest) st al (.ret r):=
 λ _ _ _ _ _ h q=>wpAny_execs_cons (B _ _ _ _ _ h λ _ _ _ g a b c d e=>by obtain⟨_,rfl,C⟩:=e.inv;exact q _ _ _ _ a b c d (.ret C))
theorem SJ.ret (B:EJ pg w V A ew e st al r):SJ pg w V A ew (.Return (some e) pos) st al (.ret r):=
 λ _ _ _ _ _ h q=>wpAny_Return_some (B _ _ _ _ _ h λ _ _ _ v a b c d e=>q _ _ _ _ a b c d (.ret e))
end
section
variable {pg:aK}{w:aA}{V:Im}{A:aD}{ew:aB}{st al bi lv:PS}{mg mb:Str->Option Value}
theorem Do.sameBut (H:Do pg w I ρ ph h)(C:ba x h h')(hx:I x=none)(G:x∉ρ.flatten):Do pg w I ρ ph h':=by
 refine⟨λ a o e=>?_,H.len,λ n o D e1 e2=>?_,H.wv,λ a B=>?_⟩
 .exact(C.2 a λ r=>bu (hx.symm.trans (r▸e))).trans (H.lw a o e)
 .refine(H.obj n o D e1 e2).mono _ _ (.refl _) (.refl _) λ a B M e=>(C.2 a ?_).trans e
  rintro rfl
  exact G (List.mem_flatten.mpr ⟨D,eX e2,B⟩)
 .obtain⟨L,o,J⟩:x0211:=H.out a B;have:a≠x:=by rintro rfl;exact G B
  exact⟨L,o,(C.2 a this).trans J⟩
theorem IO.Tj {m:Str->Option Value}(F:IO ew loc I ρ h)(J:ew.kindOf x=some .local)(N:∀x v,loc.lookup x=some v->ew.kindOf x=some .local->∃u,m x=some u/\ce I ρ v u)
  (M:h'.Ns ew.locals (λ y=>if y=x then some u else m y)) (O:ba ew.locals h h') (L:ce I ρ v u):IO ew ((x,v)::loc) I ρ h':=by
 refine⟨⟨_,M,λ y C e k=>?_⟩,λ y c e=>?_,F.bt,F.cout,F.apart⟩
 .by_cases B:y=x
  .subst B
   simp at e
   subst e;exact⟨u,by simp,L⟩
  .have G:(y==x)=false:=by simpa using B
   rw[cK,G] at e;obtain⟨D,a,b⟩:=N y C e k;exact⟨D,by simp[B,a],b⟩
 .obtain⟨D,⟨o,T,R⟩,r⟩:=F.cell y c e;refine⟨D,⟨o,(O.2 c (F.cout y c e).2.2).trans T,R⟩,λ C H k=>?_⟩;have B:y≠x:=by rintro rfl;rw[J] at k;rcases k with k|k<;>cases k
  have G:(y==x)=false:=by simpa using B
  rw[cK,G] at H;exact r C H k
theorem IO.setCell (F:IO ew loc I ρ h)(N:ew.kindOf x=some .cell)(J:ew.cells.lookup x=some c)
  (R:h'.IsCell c (some u)) (L:ba c h h') (O:ce I ρ v u):IO ew ((x,v)::loc) I ρ h':=by
 refine⟨?_,λ y G e=>?_,F.bt,F.cout,F.apart⟩
 .obtain⟨m,T,r⟩:=F.ns;refine⟨m,T.sameBut L (F.cout x c J).2.2.symm,λ y D e k=>?_⟩;have B:y≠x:=by rintro rfl;rw[N] at k;cases k
  have H:(y==x)=false:=by simpa using B
  rw[cK,H] at e;exact r y D e k
 .by_cases B:y=x
  .subst B;rw[J] at e;cases e;refine⟨some u,R,λ D C _=>?_⟩
   simp at C;subst C
   exact⟨u,rfl,O⟩
  .obtain⟨M,⟨o,Y,U⟩,r⟩:=F.cell y G e;have YO:G≠c:=by rintro rfl;exact B (F.apart y x G e J)
   refine⟨M,⟨o,(L.2 G YO).trans Y,U⟩,λ D C k=>?_⟩;have H:(y==x)=false:=by simpa using B
   rw[cK,H] at C;exact r D C k
theorem fz.sameBut (H:fz ew fs I ρ h)(C:ba x h h')(hx:jA ew x):fz ew fs I ρ h':=λ p B=>by
 obtain⟨⟨o,e,d⟩,a,b,c⟩:x04:=H p B;exact⟨⟨o,(C.2 p.1 (λ q=>c (q▸hx))).trans e,d⟩,a,b,c⟩
def az (ew:aB)(x:Str):Prop:=ew.kindOf x=some .local\/(ew.kindOf x=some .cell/\(ew.cells.lookup x).isSome=true/\ew.func.isSome=true)
theorem qt {Q:Unit->ae->Prop}(K:ut ew)(hx:az ew x)(h:OK pg w V ew st I ρ s)(G:ce I ρ v u)
  (q:gx pg w V ew {st with loc:=(x,v)::st.loc} I ρ s (Q ())):ag (af pg w) A (storeName ew x u) Q E s:=by
 rcases hx with hx|⟨hx,B,AY⟩
 .apply bd;intro D;obtain⟨m,J,L⟩:=h.fr.ns;apply D;refine wpAny_storeName_local hx J (λ H mo C=>q I ρ _ (.refl _) (.refl _) ⟨h.inv.sameBut C h.fr.bt.1 h.fr.bt.2,h.fr.Tj hx L mo C G,h.gens,h.top,h.No.sameBut C (.inl rfl)⟩ rfl) ?_;rw[K.kind];rfl
 .apply bd;intro D;obtain⟨c,B⟩:=Option.isSome_iff_exists.mp B;obtain⟨M,tE,_⟩:=h.fr.cell x c B;apply D;refine wpAny_storeName_cell K.kind hx B tE λ H mo C=>q I ρ _ (.refl _) (.refl _) ⟨h.inv.sameBut C ((h.fr.cout x c B).1 AY) (h.fr.cout x c B).2.1,h.fr.setCell hx B mo C G,h.gens,h.top,h.No.sameBut C (.inr ⟨x,B⟩)⟩ rfl
theorem SJ.assign (K:ut ew)(hx:az ew x)(J:EJ pg w V A ew e st al v)
  (H:swapsWith e (some (.Name x p)) pos.line ew=aq false:=by rfl):
  SJ pg w V A ew (.Assign [.Name x p] e pos) st {al with loc:=(x,v)::al.loc} .next:=λ I U s Q E h q=>
 wpAny_Assign_Name (J _ _ _ _ _ h λ R L Y u dG zn M C G=>qt K hx M G λ O B T cI cR N D=>
  q _ _ _ _ (dG.trans cI) (zn.trans cR) N (D.trans C) .next) H
theorem SJ.oo (K:ut ew)(B:ew.kindOf x=some .local)(hx:st.loc.lookup x=some (.int a))(N:EJ pg w V A ew e st al (.int b)):
  SJ pg w V A ew (.AugAssign (.Name x p) .Add e pos) st {al with loc:=(x,.int (a+b))::al.loc} .next:=λ I g s Q E h q=>by
 apply bd;intro O;obtain⟨m,G,M⟩:=h.fr.ns;obtain⟨u,L,T⟩:=M x _ hx B;apply O;refine wpAny_AugAssign_Name (wpAny_loadName_local K.kind B G L ?_);refine N _ _ _ _ _ h λ Z R c d dG zn H J Sv=>?_
 obtain⟨_,rfl⟩:=T.inv;obtain⟨_,rfl⟩:=Sv.inv;refine PyProof.Rows.iadd_int ?_;refine qt K (.inl B) H.toks (.int _ _) λ Y C f cI cR U D=>q _ _ _ _ (dG.trans cI) (zn.trans cR) U (D.trans J) .next
theorem SJ.iff (G:TJ pg w V A ew test st al b)(D:XJ pg w V A ew (if b then body else orelse) al bi f):
  SJ pg w V A ew (.If test body orelse pos) st bi f:=λ I J s Q E h q=>
 wpAny_If (G _ _ _ _ _ h λ M H L dG zn C B=>by
  cases b
  .exact D _ _ _ _ _ C (q.at dG zn B)
  .exact D _ _ _ _ _ C (q.at dG zn B))
theorem EJ.cs:EJ pg w V A ew (.Constant (.str x) k pos) st st (.str x):=
 λ _ _ _ _ _ h q=>by rw[eval_Constant];exact wpAny_mkText (q.toks h (.str _ _))
theorem EJ.fu:EJ pg w V A ew (.Constant (.bool x) k pos) st st (.bool x):=
 λ _ _ _ _ _ h q=>by rw[eval_Constant];exact ah (q.here h (.bool _))
theorem EJ.const_none:EJ pg w V A ew (.Constant .none k pos) st st .none:=
 λ _ _ _ _ _ h q=>by rw[eval_Constant];exact ah (q.here h .none)
theorem EJ.cell (hx:st.loc.lookup x=some v)(C:ew.kindOf x=some .cell)(B:(ew.cells.lookup x).isSome=true)(K:ut ew)(G:(x==("__debug__" : Str))=false:=by decide):
  EJ pg w V A ew (.Name x pos) st st v:=λ I L s Q E h q=>by
 apply bd;intro D;obtain⟨c,B⟩:=Option.isSome_iff_exists.mp B;obtain⟨u,tE,r⟩:=h.fr.cell x c B;obtain⟨J,rfl,H⟩:=r v hx (.inl C);apply D;exact wpAny_Name (wpAny_loadName_cell K.kind C B tE (q.here h H)) G
def cu (V:Im)(mg mb:Str->Option Value):Prop:=
 ∀h:Heap,(∀a o,V a=some o->h.get? a=some o)->h.Ns cf mg/\h.Ns iA mb/\h.NoLimit
theorem OK.tg {mg mb}(T:cu V mg mb)(h:OK pg w V ew st I ρ s):s.heap.Ns cf mg/\s.heap.Ns iA mb/\s.heap.NoLimit:=
 T _ λ a o e=>h.inv.lw a o (h.top a o e)
theorem EJ.glob {mg mb}(T:cu V mg mb)(K:ut ew)(C:ew.kindOf x=some .globalImplicit)(D:mg x=some v)(H:∀I B,nw V I->ce I B r v)(G:(x==("__debug__" : Str))=false:=by decide):
  EJ pg w V A ew (.Name x pos) st st r:=λ I B s Q E h q=>
 rv K.kind C (loadGlobal_global (K.glob▸(h.tg T).1) D (q.here h (H _ _ h.top))) G
theorem EJ.blt {mg mb}(T:cu V mg mb)(K:ut ew)(C:ew.kindOf x=some .globalImplicit)(D:mg x=none)(G:mb x=some v)(J:∀I B,nw V I->ce I B r v)(H:(x==("__debug__" : Str))=false:=by decide):
  EJ pg w V A ew (.Name x pos) st st r:=λ I B s Q E h q=>
 rv K.kind C (loadGlobal_builtin (K.glob▸(h.tg T).1) D (K.blt▸(h.tg T).2.1) G (q.here h (J _ _ h.top))) H
noncomputable def Im.put (I:Im)(a:Addr)(o:Obj):Im:=λ b=>if b=a then some o else I b
def Pi (h h':Heap):Prop:=∀a o,h.get? a=some o->h'.get? a=some o
theorem Pi.push (h:Heap)(o:Obj):Pi h (h.push o):=λ _ _ e=>bH _ e
theorem Pi.refl (h:Heap):Pi h h:=λ _ _ e=>e
theorem Pi.trans {h h' kQ:Heap}(a:Pi h h')(b:Pi h' kQ):Pi h kQ:=λ x o e=>b x o (a x o e)
theorem Im.XV {I:Im}:I.put a o a=some o:=if_pos rfl
theorem Im.jR {I:Im}(h:b≠a):I.put a o b=I b:=if_neg h
theorem Im.Ae {I:Im}{a b:Nat}(h:b<a)(e:I b=none):I.put a o b=none:=(Im.jR (aS h)).trans e
theorem Do.fresh (H:Do pg w I ρ ph h):I h.objs.size=none:=by
 cases e:I h.objs.size with
 |none=>rfl
 |some o=>exact absurd (bP (H.lw _ _ e)) (Nat.lt_irrefl _)
theorem Do.Fa (H:Do pg w I ρ ph h):nw I (I.put h.objs.size o):=λ a B e=>
 (Im.jR λ r=>bu (H.fresh.symm.trans (r▸e))).trans e
theorem Do.mem {n:Nat}(H:Do pg w I ρ ph h)(e:ρ[n]? = some as)(B:a∈as):a∈ρ.flatten:=List.mem_flatten.mpr ⟨as,eX e,B⟩
theorem Do.grow (H:Do pg w I ρ ph h)(g:Pi h h'):Do pg w I ρ ph h':=
 ⟨λ a o e=>g _ _ (H.lw a o e),H.len,λ n o C e1 e2=>(H.obj n o C e1 e2).mono _ _ (.refl _) (.refl _) λ a B D e=>g _ _ e,H.wv,λ a B=>by obtain⟨p,o,q⟩:x0211:=H.out a B;exact ⟨p,o,g _ _ q⟩⟩
theorem Do.put (H:Do pg w I ρ ph h)(M:o.isFreed=false):Do pg w (I.put h.objs.size o) ρ ph (h.push o):=by
 refine⟨λ a B e=>?_,H.len,λ n B L e1 e2=>?_,H.wv,λ a C=>?_⟩
 .by_cases D:a=h.objs.size
  .subst D;rw[<-Im.XV.symm.trans e];exact cj _ M
  .exact bH _ (H.lw a B ((Im.jR D).symm.trans e))
 .exact(H.obj n B L e1 e2).mono _ _ H.Fa (.refl _) λ a C B e=>bH _ e
 .obtain⟨J,B,G⟩:x0211:=H.out a C;exact⟨Im.Ae (bP G) J,B,bH _ G⟩
theorem IO.grow (F:IO ew loc I ρ h)(g:Pi h h'):IO ew loc I ρ h':=
 ⟨by obtain⟨m,a,b⟩:=F.ns;exact ⟨m,a.keeps g,b⟩,λ x c e=>by obtain⟨u,a,b⟩:=F.cell x c e;exact ⟨u,a.keeps g,b⟩,F.bt,F.cout,F.apart⟩
theorem IO.mono (F:IO ew loc I ρ h)(G:nw I I')(D:pu ρ ρ')(H:∀a,a<h.objs.size->I a=none->I' a=none)(J:∀a,a<h.objs.size->a∈ρ'.flatten->a∈ρ.flatten):IO ew loc I' ρ' h:=by
 apply bd;intro B;obtain⟨m,a,b⟩:=F.ns;apply B;refine⟨⟨m,a,λ x v e k=>by obtain⟨u,p,q⟩:=b x v e k;exact ⟨u,p,q.mono G D⟩⟩,λ x c e=>?_,⟨H _ a.lt F.bt.1,λ C=>F.bt.2 (J _ a.lt C)⟩,λ x c e=>?_,F.apart⟩
 .apply bd;intro B;obtain⟨u,p,q⟩:=F.cell x c e;apply B;exact⟨u,p,λ v e k=>by obtain⟨L,r,t⟩:=q v e k;exact ⟨L,r,t.mono G D⟩⟩
 .apply bd;intro B;obtain⟨u,p,q⟩:=F.cell x c e;obtain⟨O,M,R⟩:x03:=F.cout x c e;apply B;exact⟨λ N=>H _ p.lt (O N),λ C=>M (J _ p.lt C),R⟩
theorem fz.grow (H:fz ew fs I ρ h)(g:Pi h h'):fz ew fs I ρ h':=λ p B=>by
 obtain⟨⟨o,e,d⟩,r⟩:x02:=H p B;exact⟨⟨o,g _ _ e,d⟩,r⟩
theorem fz.mono (H:fz ew fs I ρ h)(C:∀a,a<h.objs.size->I a=none->I' a=none)(D:∀a,a<h.objs.size->a∈ρ'.flatten->a∈ρ.flatten):fz ew fs I' ρ' h:=λ p B=>by
 obtain⟨⟨o,e,d⟩,a,b,c⟩:x04:=H p B;exact⟨⟨o,e,d⟩,C _ (bP e) a,λ q=>b (D _ (bP e) q),c⟩
theorem OK.grow (h:OK pg w V ew st I ρ s)(g:Pi s.heap h'):OK pg w V ew st I ρ {s with heap:=h'}:=⟨h.inv.grow g,h.fr.grow g,h.gens,h.top,h.No.grow g⟩
theorem OK.put (h:OK pg w V ew st I ρ s)(D:o.isFreed=false):OK pg w V ew st (I.put s.heap.objs.size o) ρ {s with heap:=s.heap.push o}:=
 ⟨h.inv.put D,(h.fr.mono h.inv.Fa (.refl _) (λ a B e=>Im.Ae B e) (λ a B C=>C)).grow (.push _ _),h.gens,h.top.trans h.inv.Fa,(h.No.mono (λ a B e=>Im.Ae B e) (λ a B C=>C)).grow (.push _ _)⟩
theorem ZB.put (h:OK pg w V ew st I ρ s)(B:o.isFreed=false)(q:ZB pg w V ew st r I ρ s Q)
  (C:ce (I.put s.heap.objs.size o) ρ r (.ref s.heap.objs.size)):Q (.ref s.heap.objs.size) {s with heap:=s.heap.push o}:=
 q _ _ _ _ h.inv.Fa (.refl _) (h.put B) rfl C
noncomputable def am (pg:aK)(w:aA)(V:Im)(A:aD)(ew:aB):List aF->PS->PS->List PV->Prop
 | [],st,bv,vs=>bv=st/\vs=[]
 |e::es,st,bv,vs=>∃al v eL,vs=v::eL/\(starEach (e::es) ew=(false,eval e ew)::starEach es ew)/\EJ pg w V A ew e st al v/\am pg w V A ew es al bv eL
theorem am.nil:am pg w V A ew [] st st []:=⟨rfl,rfl⟩
theorem am.cons (D:EJ pg w V A ew e st al v)(C:am pg w V A ew es al bi vs)(B:starEach (e::es) ew=(false,eval e ew)::starEach es ew:=by rfl):
  am pg w V A ew (e::es) st bi (v::vs):=⟨_,_,_,rfl,B,D,C⟩
def zi (pg:aK)(w:aA)(V:Im)(ew:aB)(bv:PS)(rs:List PV)(I:Im)(ρ:wl)(s:ae)(Q:List Value->ae->Prop):Prop:=
 ∀I' ρ' s' vs,nw I I'->pu ρ ρ'->OK pg w V ew bv I' ρ' s'->s'.os=s.os->lm I' ρ' rs vs->Q vs s'
theorem am.spliced:∀{st bv:PS}{rs I B s Q E},am pg w V A ew es st bv rs->OK pg w V ew st I B s->zi pg w V ew bv rs I B s Q->ag (af pg w) A (spliced (backTo pos (starEach es ew))) Q E s:=by
 induction es with
 |nil=>
  intro st bv rs I B s Q E h k q;obtain⟨rfl,rfl⟩:x02:=h;exact Calls.spliced_nil (q _ _ _ _ (.refl _) (.refl _) k rfl .nil)
 |cons e es L=>
  intro st bv rs I B s Q E h k q;apply bd;intro R;obtain⟨al,v,eL,rfl,N,O,J⟩:=h;apply R;rw[N];refine Calls.spliced_cons (O _ _ _ _ _ k λ Y T f u a b c d e=>L J c λ U G g Z D C M H e2=>q _ _ _ _ (a.trans D) (b.trans C) M (H.trans d) (.cons (e.mono D C) e2))
theorem EJ.list (C:am pg w V A ew es st al vs)(B:vs.length<=aH):EJ pg w V A ew (.List es pos) st al (.lst vs):=λ I J s Q E h q=>
 List_ (C.spliced h λ H G L D a b c d e=>gN ((q.at a b d).put c rfl (.lst (n:=0) (Im.XV ..) (e.mono c.inv.Fa (.refl _)))) (by show D.toArray.size<=aH;rw[dJ,<-e.length];exact B))
theorem EJ.tuple (C:am pg w V A ew es st al vs)(B:vs.length<=aH):EJ pg w V A ew (.Tuple es k pos) st al (.tup vs):=λ I J s Q E h q=>
 Tuple_ (C.spliced h λ H G L D a b c d e=>gN ((q.at a b d).put c rfl (.tup (n:=0) (Im.XV ..) (e.mono c.inv.Fa (.refl _)))) (by show D.toArray.size<=aH;rw[dJ,<-e.length];exact B))
theorem BJ.eg (B:xs.length+ys.length<=aH):BJ pg w V A ew .Add (.lst xs) (.lst ys) st st (.lst (xs++ys)):=λ I L s Q E u v h G J q=>by
 apply bd;intro H;obtain⟨_,a,_,rfl,e1,D⟩:=G.inv;obtain⟨_,b,_,rfl,e2,C⟩:=J.inv;apply H;refine P.add_list (h.inv.lw _ _ e1) (h.inv.lw _ _ e2) (q.put h rfl (.lst (items:=a++b) (n:=0) (Im.XV.trans (by rw[List.append_toArray])) ((D.append C).mono h.inv.Fa (.refl _)))) ?_;show a.length+b.length<=_;rw[<-D.length,<-C.length];exact B
theorem BJ.add_str {x y:Str}(B:x.length+y.length<=aH):BJ pg w V A ew .Add (.str x) (.str y) st st (.str (x++y)):=λ I H s Q E u v h C D q=>by
 obtain⟨_,rfl⟩:=C.inv;obtain⟨_,rfl⟩:=D.inv;exact SB.add (λ G k=>q.toks h (.str _ _)) B
theorem BJ.mod_int (C:b≠0):BJ pg w V A ew .Mod (.int a) (.int b) st st (.int (a.fmod b)):=λ I G s Q E u v h B D q=>by
 obtain⟨_,rfl⟩:=B.inv;obtain⟨_,rfl⟩:=D.inv;exact PyProof.Rows.mod_int C (q.toks h (.int _ _))
theorem BJ.pow_int {a n:Int}(C:0<=n)(B:(Builtin.Int.intBits a:Int) * n<=2 ^ 27):BJ pg w V A ew .Pow (.int a) (.int n) st st (.int (a ^ n.toNat)):=λ I H s Q E u v h D G q=>by
 obtain⟨_,rfl⟩:=D.inv;obtain⟨_,rfl⟩:=G.inv;exact PyProof.Rows.pow_int C B (q.toks h (.int _ _))
theorem BJ.mul_int {a b:Int}(C:IntMulOk a b):BJ pg w V A ew .Mult (.int a) (.int b) st st (.int (a * b)):=λ I G s Q E u v h B D q=>by
 obtain⟨_,rfl⟩:=B.inv;obtain⟨_,rfl⟩:=D.inv;exact PyProof.Rows.mul_int (q.toks h (.int _ _)) C
theorem CJ.eq_int:CJ pg w V A ew .Eq (.int a) (.int b) st (a==b):=λ I D s Q E u v h B C q=>by
 obtain⟨_,rfl⟩:=B.inv;obtain⟨_,rfl⟩:=C.inv;exact PyProof.Rows.eq_int (q.here h (.bool _))
theorem CJ.ne_int:CJ pg w V A ew .NotEq (.int a) (.int b) st (a != b):=λ I D s Q E u v h B C q=>by
 obtain⟨_,rfl⟩:=B.inv;obtain⟨_,rfl⟩:=C.inv;exact PyProof.Rows.ne_int (q.here h (.bool _))
theorem CJ.lt_int:CJ pg w V A ew .Lt (.int a) (.int b) st (decide (a<b)):=λ I D s Q E u v h B C q=>by
 obtain⟨_,rfl⟩:=B.inv;obtain⟨_,rfl⟩:=C.inv;exact PyProof.Rows.lt_int (q.here h (.bool _))
theorem CJ.le_int:CJ pg w V A ew .LtE (.int a) (.int b) st (decide (a<=b)):=λ I D s Q E u v h B C q=>by
 obtain⟨_,rfl⟩:=B.inv;obtain⟨_,rfl⟩:=C.inv;exact PyProof.Rows.le_int (q.here h (.bool _))
theorem CJ.ge_int:CJ pg w V A ew .GtE (.int a) (.int b) st (decide (b<=a)):=λ I D s Q E u v h B C q=>by
 obtain⟨_,rfl⟩:=B.inv;obtain⟨_,rfl⟩:=C.inv;exact PyProof.Rows.ge_int (q.here h (.bool _))
theorem EJ.li (N:EJ pg w V A ew l st al a)(L:EJ pg w V A ew r al bi b)(M:CJ pg w V A ew op a b bi c)(J:behindInMarks op r=false:=by with_unfolding_all rfl):
  EJ pg w V A ew (.Compare l [op] [r] pos) st bi (.bool c):=λ I d s Q E h q=>
 wpAny_Compare1 (N _ _ _ _ _ h λ Y O e u dG zn R C H=>L _ _ _ _ _ R λ U B Z v cI cR T D G=>
  M _ _ _ _ _ _ _ T (H.mono cI cR) G (q.at (dG.trans cI) (zn.trans cR) (D.trans C))) J
theorem TJ.li (T:EJ pg w V A ew l st al a)(H:EJ pg w V A ew r al bi b)(R:CJ pg w V A ew op a b bi c)(O:behindInMarks op r=false:=by with_unfolding_all rfl):
  TJ pg w V A ew (.Compare l [op] [r] pos) st bi c:=λ I k s Q E h q=>
 wpAny_isTrue_Compare1 (T _ _ _ _ _ h λ d U f u dG zn G J N=>H _ _ _ _ _ G λ Z B j v cI cR L D Y=>
  R _ _ _ _ _ _ _ L (N.mono cI cR) Y λ i C e g we ra M o3 tN=>by
   obtain rfl:=tN.inv;exact wpAny_truthy_bool (q _ _ _ ((dG.trans cI).trans we) ((zn.trans cR).trans ra) M (o3.trans (D.trans J)))) O
structure cV (A:aD)(k:Nat):Prop where
 depth:A.depth+k<recursionLimit
 units:A.units+100 * k<cLine
structure wn (A:aD)(k:Nat):Prop where
 depth:A.depth+k<recursionLimit
 units:A.units+100 * k<cLine
 handled:A.handled=none
theorem wn.mono {A:aD}{j k:Nat}(h:wn A k)(B:j<=k):wn A j:=⟨c7 (nj B _) h.depth,c7 (nj (Nat.mul_le_mul_left _ B) _) h.units,h.handled⟩
theorem AP {a k c:Nat}(h:a+(k+1)<c):a+1+k<c:=c7 (dK (nq a 1 k)) h
theorem ug {u k c:Nat}(d:Nat)(h:u+100 * (k+1)<c)(B:d<=100:=by decide):u+d+100 * k<c:=
 c7 (av (dK (nq u d (100 * k))) (av (nj B _) (dK (Nat.add_assoc u (100 * k) 100)))) h
theorem wn.r0 {A:aD}{k:Nat}(R:wn A k):cV A k:=⟨R.depth,R.units⟩
theorem cV.d0 {A:aD}{k:Nat}(R:cV A k):A.depth<recursionLimit:=c7 (dW _ k) R.depth
theorem cV.u {A:aD}{k:Nat}(R:cV A (k+1))(d:Nat)(B:d<=100:=by decide):A.units+d<cLine:=c7 (dW _ _) (ug d R.units B)
theorem cV.deeper {A:aD}{k:Nat}(h:cV A (k+1))(ew:aB):cV (A.deeper ew) k:=⟨AP h.depth,ug 3 h.units⟩
theorem wn.u {A:aD}{k:Nat}(R:wn A (k+1))(d:Nat)(B:d<=100:=by decide):A.units+d<cLine:=c7 (dW _ _) (ug d R.units B)
theorem wn.deeper {A:aD}{k:Nat}(h:wn A (k+1))(ew:aB):wn (A.deeper ew) k:=
 ⟨AP h.depth,ug 3 h.units,h.handled⟩
def dO (ew:aB)(a:Addr):Prop:=∃x,ew.cells.lookup x=some a
open Classical in
noncomputable def Im.frozen (I:Im)(ew:aB)(h:Heap):Im:=λ a=>if dO ew a then h.get? a else I a
open Classical in
noncomputable def Im.fh (I I0:Im)(ew:aB):Im:=λ a=>if dO ew a/\I0 a=none then none else I a
theorem ce.seq (B:ib I I')(h:ce I ρ x v):ce I' ρ x v:=(ce.g8 B (pu.refl ρ).to).1 h h.lt
theorem cY.seq (B:ib I I')(H:cY pg w I ρ h o as):cY pg w I' ρ h o as:=H.map B (pu.refl ρ).to (λ _ _ _ e=>e) H.lt
theorem IO.ma (F:IO ew loc I ρ h)(G:jA ew a):a∉ρ.flatten/\∃o,h.get? a=some o/\(dO ew a->∃u,o.data = .cell u):=by
 rcases G with rfl|⟨x,e⟩
 .apply bd;intro B;obtain⟨m,⟨o,J,H,C,D,_⟩,_⟩:=F.ns;apply B;exact⟨F.bt.2,o,C,λ⟨x,e⟩=>absurd rfl (F.cout x _ e).2.2⟩
 .apply bd;intro B;obtain⟨u,⟨o,C,D⟩,_⟩:=F.cell x a e;apply B;exact⟨(F.cout x a e).2.1,o,C,λ _=>⟨u,D⟩⟩
theorem Im.uq {I:Im}(B:dO ew a):I.frozen ew h a=h.get? a:=if_pos B
theorem Im.mn {I:Im}(B:¬dO ew a):I.frozen ew h a=I a:=if_neg B
theorem Im.EG {I B:Im}(C:dO ew a)(h0:B a=none):I.fh B ew a=none:=if_pos ⟨C,h0⟩
theorem Im.vN {I B:Im}(C:¬(dO ew a/\B a=none)):I.fh B ew a=I a:=if_neg C
theorem IO.tR (H:Do pg w I ρ ph h)(k:Pi h h'):nw I (I.frozen ew h'):=λ a o e=>by
 by_cases q:dO ew a
 .exact(Im.uq q).trans (k _ _ (H.lw a o e))
 .exact(Im.mn q).trans e
theorem Do.frozen (H:Do pg w I ρ ph h)(F:IO ew loc I ρ h)(k:Pi h h'):Do pg w (I.frozen ew h') ρ ph h':=by
 refine⟨λ a o e=>?_,H.len,λ n o C e1 e2=>(H.obj n o C e1 e2).mono _ _ (IO.tR H k) (.refl _) λ a B D e=>k _ _ e,H.wv,λ a B=>?_⟩
 .by_cases q:dO ew a
  .exact(Im.uq q).symm.trans e
  .exact k _ _ (H.lw a o ((Im.mn q).symm.trans e))
 .obtain⟨p,o,e⟩:x0211:=H.out a B;have q:¬dO ew a:=λ q=>(F.ma (.inr q)).1 B
  exact⟨(Im.mn q).trans p,o,k _ _ e⟩
def pU (ew:aB)(h:Heap)(d:Data):Prop:=∃o,h.get? ew.locals=some o/\o.data=d
theorem IO.HS (F:IO ew loc I ρ h):∃d,pU ew h d/\∀vs,d≠.fields vs:=by
 apply bd;intro B;obtain⟨m,⟨o,G,H,D,C,_⟩,_⟩:=F.ns;apply B;exact⟨o.data,⟨o,D,rfl⟩,λ vs e=>by rw[C] at e;cases e⟩
theorem OK.ET {fw}(h:OK pg w V ew st I ρ s)(k:Pi s.heap h')(C:pU ew s.heap d)(pQ:∀a,jA fw a->s.heap.objs.size<=a\/dO ew a):
  fz fw ((ew.locals,d)::st.fs) (I.frozen ew h') ρ h':=by
 intro p G
 rcases aG.mp G with rfl|G
 .apply bd;intro H;obtain⟨o,D,C⟩:=C;apply H;have B:¬dO ew ew.locals:=λ⟨x,e⟩=>(h.fr.cout x _ e).2.2 rfl
  exact⟨⟨o,k _ _ D,C⟩,(Im.mn B).trans h.fr.bt.1,h.fr.bt.2,λ q=>(pQ _ q).elim (λ z=>absurd (bP D) (Nat.not_lt.mpr z)) B⟩
 .apply bd;intro H;obtain⟨⟨o,D,C⟩,a,b,c⟩:x04:=h.No p G;apply H;have B:¬dO ew p.1:=λ q=>c (.inr q)
  exact⟨⟨o,k _ _ D,C⟩,(Im.mn B).trans a,b,λ q=>(pQ _ q).elim (λ z=>absurd (bP D) (Nat.not_lt.mpr z)) B⟩
theorem Po {o:Obj}(C:o.data = .cell u)(B:iW o):False:=by unfold iW at B;rw[C] at B;exact B
theorem OK.back {bn fw}(h:OK pg w V ew st I ρ s)(k:Pi s.heap h')(C:pU ew s.heap d)(Q:nw (I.frozen ew h') I3)(Z:pu ρ ρ3)(D:Do pg w I3 ρ3 bn s3.heap)(hg:s3.gens = #[])
  (E:fz fw ((ew.locals,d)::st.fs) I3 ρ3 s3.heap):
  OK pg w V ew {st with ph:=bn} (I3.fh I ew) ρ3 s3/\nw I (I3.fh I ew)/\ib I3 (I3.fh I ew):=by
 have F:=h.fr;have yT:∀a,dO ew a->∃o u,s.heap.get? a=some o/\I3 a=some o/\s3.heap.get? a=some o/\o.data = .cell u:=λ a q=>by
  apply bd;intro B;obtain⟨_,o,G,C⟩:x0212:=F.ma (.inr q);obtain⟨u,C⟩:=C q;apply B;have e:I3 a=some o:=Q a o ((Im.uq q).trans (k _ _ G));exact⟨o,u,G,e,D.lw a o e,C⟩
 have X:∀{o:Obj}{u},o.data = .cell u->¬iW o:=λ C U=>Po C U
 have J:nw I (I3.fh I ew):=λ a o e=>by
  have q:¬(dO ew a/\I a=none):=λ q=>bu (q.2.symm.trans e)
  rw[Im.vN q];exact Q a o (IO.tR h.inv k a o e)
 have g:ib I3 (I3.fh I ew):=λ a ob e U=>by
  have q:¬(dO ew a/\I a=none):=λ q=>by
   apply bd;intro B;obtain⟨o,u,_,T,_,C⟩:x24:=yT a q.1;apply B;obtain rfl:=Option.some.inj (e.symm.trans T);exact X C U
  rw[Im.vN q];exact e
 have M:∀a,I3 a=none->I3.fh I ew a=none:=λ a e=>by
  unfold Im.fh;split
  .rfl
  .exact e
 apply bd;intro B;obtain⟨⟨oL,rT,Vn⟩,Vu,Vm,_⟩:x04:=E _ (aN ..);apply B;refine⟨⟨⟨λ a o e=>?_,D.len,λ n o as e1 e2=>(D.obj n o as e1 e2).seq g,D.wv,λ a ha=>?_⟩,⟨?_,λ x c e=>?_,⟨M _ Vu,Vm⟩,λ x c e=>⟨λ j=>Im.EG ⟨x,e⟩ ((F.cout x c e).1 j),?_,(F.cout x c e).2.2⟩,F.apart⟩,hg,h.top.trans J,λ p f=>?_⟩,J,g⟩
 .by_cases q:dO ew a/\I a=none
  .exact bu ((Im.EG q.1 q.2).symm.trans e)
  .exact D.lw a o ((Im.vN q).symm.trans e)
 .apply bd;intro B;obtain⟨p,o,e⟩:x0211:=D.out a ha;apply B;exact⟨M _ p,o,e⟩
 .apply bd;intro B;obtain⟨m,⟨o,r,ep,G,L,O⟩,H⟩:=F.ns;obtain⟨y,v6,R⟩:=C;apply B;obtain rfl:=Option.some.inj (G.symm.trans v6);exact⟨m,⟨oL,r,ep,rT,by rw[Vn,<-R];exact L,O⟩,λ x v e N=>by obtain⟨u,p,q⟩:=H x v e N;exact ⟨u,p,q.mono J Z⟩⟩
 .apply bd;intro B;obtain⟨u,⟨o,G,C⟩,H⟩:=F.cell x c e;obtain⟨y,Y,e1,_,z,_⟩:x24:=yT c ⟨x,e⟩;apply B;obtain rfl:=Option.some.inj (G.symm.trans e1);exact⟨u,⟨o,z,C⟩,λ v e N=>by obtain⟨Y,p,q⟩:=H v e N;exact ⟨Y,p,q.mono J Z⟩⟩
 .intro H;apply bd;intro B;obtain⟨o,u,_,T,_⟩:=yT c ⟨x,e⟩;apply B;exact bu ((D.out _ H).1.symm.trans T)
 .apply bd;intro B;obtain⟨L,O,r3,_⟩:x04:=E p (aT _ f);apply B;exact⟨L,M _ O,r3,(h.No p f).2.2.2⟩
structure Ctx (A:aD)(ew:aB)(fs:List (Addr×Data)):Prop where
 stack:∃outs,A.frames=some (ew::outs)/\∀e∈outs,e.scope.kind≠.module/\∃L d,e.frame=some L/\(L,d)∈fs/\∀vs,d≠.fields vs
 frame:ew.frame=some ew.locals
 kind:ew.scope.kind≠.module
structure Uf (A:aD)(ew:aB)(fs:List (Addr×Data)):Prop where
 stack:∃outs,A.frames=some outs/\∀e∈outs,e.scope.kind≠.module/\∃L,e.frame=some L/\(L=ew.locals\/∃d,(L,d)∈fs/\∀vs,d≠.fields vs)
theorem Ctx.cw {A:aD}{ew:aB}{fs:List (Addr×Data)}(C:Ctx A ew fs):Uf A ew fs:=by
 obtain⟨B,e,r⟩:=C.stack;refine⟨ew::B,e,λ x D=>?_⟩
 rcases aG.mp D with rfl|D
 .exact⟨C.kind,_,C.frame,.inl rfl⟩
 .obtain⟨a,L,d,b,c,e⟩:x0223:=r x D;exact⟨a,L,b,.inr ⟨d,c,e⟩⟩
theorem Uf.deeper {A:aD}{ew fw:aB}{fs:List (Addr×Data)}{d:Data}(C:Uf A ew fs)(M:∀vs,d≠.fields vs)(G:fw.frame=some fw.locals)(D:fw.scope.kind≠.module):Ctx (A.deeper fw) fw ((ew.locals,d)::fs):=by
 obtain⟨B,e,r⟩:=C.stack;refine⟨⟨B,Around.frames_deeper e,λ x J=>?_⟩,G,D⟩;obtain⟨a,L,b,c⟩:x0212:=r x J
 rcases c with rfl|⟨H,c,e⟩
 .exact⟨a,_,d,b,aN ..,M⟩
 .exact⟨a,L,H,b,aT _ c,e⟩
theorem Uf.inner {A:aD}{ew fw:aB}{fs:List (Addr×Data)}{d:Data}(C:Uf A ew fs)(J:∀vs,d≠.fields vs):Uf A fw ((ew.locals,d)::fs):=by
 apply bd;intro D;obtain⟨B,e,r⟩:=C.stack;apply D;refine⟨B,e,λ x H=>?_⟩;apply bd;intro D;obtain⟨a,L,b,c⟩:x0212:=r x H;apply D
 rcases c with rfl|⟨G,c,e⟩
 .exact⟨a,_,b,.inr ⟨d,aN ..,J⟩⟩
 .exact⟨a,L,b,.inr ⟨G,aT _ c,e⟩⟩
def f9 (I:Im)(ρ:wl)(loc:List (Str×PV))(binds:List (Str×Value)):Prop:=loc.map (·.1)=binds.map (·.1)/\lm I ρ (loc.map (·.2)) (binds.map (·.2))
theorem f9.lookup {loc:List (Str×PV)}{B:List (Str×Value)}{x:Str}(h:f9 I ρ loc B):∀{v},loc.lookup x=some v->∃u,B.lookup x=some u/\ce I ρ v u:=by
 refine v9 (P:=λ J C=>∀{v},J.lookup x=some v->∃u,C.lookup x=some u/\ce I ρ v u) (λ e=>nomatch e) (λ{n _ _ _ _} H D v e=>?_) h.1 h.2;rw[cK] at e ⊢
 cases G:x==n<;>rw[G] at e
 .exact D e
 .exact⟨_,rfl,Option.some.inj e▸H⟩
theorem SR {C:Str->Option NameKind}:∀{B:List (Str×Value)}{m:Str->Option Value}{x:Str},x∉B.map (·.1)->bindL C B m x=m x:=by
 intro D
 induction D with
 |nil=>
  intro m x _;exact rfl
 |cons H r G=>
  obtain(⟨n,v⟩):=H;intro m x h;simp only[aL,aG,not_or] at h;unfold bindL;rw[G h.2]
  split
  .simp[h.1]
  .rfl
theorem Wz {C:Str->Option NameKind}:∀{B:List (Str×Value)}{m:Str->Option Value}{x:Str},x∉B.map (·.1)->bindC C B m x=m x:=by
 intro D
 induction D with
 |nil=>
  intro m x _;exact rfl
 |cons H r G=>
  obtain(⟨n,v⟩):=H;intro m x h;simp only[aL,aG,not_or] at h;unfold bindC;rw[G h.2]
  split
  .rfl
  .simp[h.1]
theorem JU {G:Str->Option NameKind}:∀{B:List (Str×Value)}{m:Str->Option Value}{x:Str}{u},(B.map (·.1)).Nodup->B.lookup x=some u->G x=some .local->bindL G B m x=some u:=by
 intro J
 induction J with
 |nil=>
  intro m x u _ e _;cases e
 |cons M r L=>
  obtain(⟨n,v⟩):=M;intro m x u D e H;rw[aL,c8] at D;rw[cK] at e;unfold bindL
  cases C:x==n with
  |true=>
   rw[C] at e;cases e;obtain rfl:=beq_iff_eq.mp C;rw[SR D.1,if_pos H];simp
  |false=>rw[C] at e;exact L D.2 e H
theorem MH {G:Str->Option NameKind}:∀{B:List (Str×Value)}{m:Str->Option Value}{x:Str}{u},(B.map (·.1)).Nodup->B.lookup x=some u->G x≠some .local->bindC G B m x=some u:=by
 intro J
 induction J with
 |nil=>
  intro m x u _ e _;cases e
 |cons M r L=>
  obtain(⟨n,v⟩):=M;intro m x u D e H;rw[aL,c8] at D;rw[cK] at e;unfold bindC
  cases C:x==n with
  |true=>
   rw[C] at e;cases e;obtain rfl:=beq_iff_eq.mp C;rw[Wz D.1,if_neg H];simp
  |false=>rw[C] at e;exact L D.2 e H
section
variable {st:PS}
theorem XI {a:Addr}(k:OK pg w V ew st I ρ s)(D:s.heap.objs.size<=a):I a=none/\¬dO ew a/\a∉ρ.flatten:=by
 have B:∀{o},¬s.heap.get? a=some o:=λ e=>absurd (bP e) (Nat.not_lt.mpr D)
 refine⟨?_,λ q=>by obtain⟨_,_,e,_⟩:x0212:=k.fr.ma (.inr q);exact B e,λ C=>by obtain⟨_,_,e⟩:x0211:=k.inv.out a C;exact B e⟩
 cases e:I a with
 |none=>rfl
 |some o=>exact(B (k.inv.lw _ _ e)).elim
end
structure fo (V:Im)(f:Addr)(fd:aU)(body:List aC):Prop where
 at_:∃o,V f=some o/\o.data = .func fd
 code:∃c oc vs t,fd.code = .ref c/\V c=some oc/\oc.data = .fields vs/\vs[1]? = some (.str fd.qualname t)
 body:fd.body = .stmts body
 closure:fd.closure=[]
 glob:fd.globals=cf
 blt:fd.builtins=iA
 kind:fd.scope.kind = .function
 gen:fd.scope.isGenerator=false
 co:fd.scope.isCoroutine=false
section
variable (pg:aK)(w:aA)(V:Im)
def re (fd:aU)(args:List PV)(kw:List (Str×PV))(loc:List (Str×PV)):Prop:=
 ∀A ew st I ρ s Q E vs kvs,cV A 0->OK pg w V ew st I ρ s->lm I ρ args vs->f9 I ρ kw kvs ->
  (∀I' ρ' s' binds,nw I I'->pu ρ ρ'->OK pg w V ew st I' ρ' s'->s'.os=s.os->f9 I' ρ' loc binds->Q binds s')->ag (af pg w) A (bindArgs fd ⟨vs,kvs⟩) Q E s
noncomputable def tA (RM:aD->Prop)(f:Addr)(args:List PV)(kw:List (Str×PV))(ph bn:List PO)(r:PV):Prop:=
 ∀A ew st I ρ s Q E vs kvs,RM A->Uf A ew st.fs->st.ph=ph->OK pg w V ew st I ρ s->lm I ρ args vs->f9 I ρ kw kvs->ZB pg w V ew {st with ph:=bn} r I ρ s Q ->
  ag (af pg w) A (call (.ref f) vs kvs) Q E s
noncomputable def mj (RM:aD->Prop)(f:Addr)(args:List PV)(kw:List (Str×PV))(ph bn:List PO)(r:PV):Prop:=
 ∀A ew st I ρ s R vs kvs,RM A->Uf A ew st.fs->st.ph=ph->OK pg w V ew st I ρ s->lm I ρ args vs->f9 I ρ kw kvs->ZB pg w V ew {st with ph:=bn} r I ρ s (λ v s'=>R (.ok (.ret v)) s') ->
  codeAny (af pg w) A (.call (.ref f) ⟨vs,kvs⟩) R s
abbrev nb (k:Nat)(f:Addr)(args:List PV)(kw:List (Str×PV))(ph bn:List PO)(r:PV):Prop:=tA pg w V (λ A=>wn A k) f args kw ph bn r
abbrev mD (k:Nat)(f:Addr)(args:List PV)(kw:List (Str×PV))(ph bn:List PO)(r:PV):Prop:=mj pg w V (λ A=>wn A k) f args kw ph bn r
variable {pg w V}
theorem mj.fn {bn}(h:mj pg w V RM f args kw ph bn r):tA pg w V RM f args kw ph bn r:=
 λ A ew st I G s Q E H D R C gV B jp ly q=>wpAny_call (h A ew st I G s _ H D R C gV B jp ly q)
theorem fo.env {body}(F:fo V f fd body)(L:Addr):ut (callEnvC fd L f):=⟨F.kind,F.glob,F.blt⟩
noncomputable def zw:i6->PV
 | .ret v=>v
 |_=>.none
noncomputable def ow (fd:aU)(loc:List (Str×PV)):Prop:=
 (loc.map (·.1)).Nodup/\∀L:Addr,∀x∈loc.map (·.1),fd.scope.names.lookup x=some .local\/(fd.scope.names.lookup x=some .cell/\((cellsFrom (L+1) fd.scope.names []).lookup x).isSome=true)
theorem fo.enter {mg mb body A ew st RR}(T:cu V mg mb)(F:fo V f fd body)(hb:re pg w V fd args kw loc)(r:ow fd loc)
  (R:cV A (k+1)) (C:Uf A ew st.fs) (B:OK pg w V ew st I ρ s) (jp:lm I ρ args vs) (ly:f9 I ρ kw kvs)
  (q:∀{Z D H d M tk L},nw I Z->pu ρ D->H.os=s.os->OK pg w V ew st Z D H->Pi H.heap M->pU ew H.heap d->cV (A.deeper (callEnvC fd L f)) k->Ctx (A.deeper (callEnvC fd L f)) (callEnvC fd L f) ((ew.locals,d)::st.fs) ->
   OK pg w V (callEnvC fd L f) ⟨loc,st.ph,(ew.locals,d)::st.fs⟩ (Z.frozen ew M) D {H with heap:=M,toks:=tk} ->
   ag (af pg w) (A.deeper (callEnvC fd L f)) (execs body (callEnvC fd L f)) (λ fl s'=>RR (.ok (.ret (match fl with | .ret v=>v|_=>.none))) s')
    (λ e s'=>ag (af pg w) (A.deeper (callEnvC fd L f)) (leaving (callEnvC fd L f) e) (λ _ cA=>RR (.error e) cA) (λ m cA=>RR (.error m) cA) s') {H with heap:=M,toks:=tk}):
  codeAny (af pg w) A (.call (.ref f) ⟨vs,kvs⟩) RR s:=by
 apply bd;intro J;obtain⟨o,ho,hd⟩:=F.at_;obtain⟨c,oc,Ud,t,e1,e2,e3,e4⟩:x4203:=F.code;apply J;refine codeAny_call_function (o:=o) (fd:=fd) (body:=body) (by first|exact R.d0|exact R.d1) (B.inv.lw _ _ (B.top _ _ ho)) hd F.co F.gen F.body ⟨c,oc,Ud,t,e1,B.inv.lw _ _ (B.top _ _ e2),e3,e4⟩ ?_;refine hb _ ew st I ρ s _ _ vs kvs ⟨R.d0,R.u 1⟩ B jp ly λ Z D H U a1 b1 G o1 xH=>?_
 rw[F.closure];refine wpAny_newFunctionEnv_cells F.kind (λ x hx=>r.2 _ x.1 (by rw[xH.1];exact nr hx)) λ e he s2 X=>?_
 subst he;apply bd;intro J;obtain⟨M,XQ,rfl⟩:x21:=X.toInCall.same;apply J;have E:Pi H.heap M:=X.toInCall.keep;refine⟨((G.tg T).2.2).keeps E,codeAny_func ?_⟩;have N:∀{a},H.heap.objs.size<=a->Z.frozen ew M a=none/\a∉D.flatten:=λ ha=>have O:=XI G ha;⟨(Im.mn O.2.1).trans O.1,O.2.2⟩
 have kU:nw Z (Z.frozen ew M):=IO.tR G.inv E;have Q:(U.map (·.1)).Nodup:=xH.1▸r.1;apply bd;intro J;obtain⟨d,hZ,Ay⟩:=G.fr.HS;apply J;refine q a1 b1 o1 G E hZ (R.deeper _) (C.deeper Ay rfl (λ e=>nomatch F.kind.symm.trans e)) ⟨G.inv.frozen G.fr E,⟨⟨_,X.toInCall.ns,λ x v e Y=>?_⟩,λ x c e=>⟨_,X.cell x c e,λ v m Y=>?_⟩,N (aJ _),λ x c e=>?_,λ x y c e1 e2=>PySem.name_of_addr X.apart (pb e1) (pb e2)⟩,
  G.gens,G.top.trans kU,G.ET E hZ λ a q=>.inl (q.elim (λ e=>dK e.symm) λ⟨x,e⟩=>dq (X.above x a (pb e)))⟩
 .apply bd;intro J;obtain⟨u,g,p⟩:=xH.lookup e;apply J;exact⟨u,JU Q g Y,p.mono kU (.refl _)⟩
 .apply bd;intro J;obtain⟨u,g,p⟩:=xH.lookup m;apply J;exact⟨u,MH Q g (λ z=>Y.elim (λ Y=>nomatch Y.symm.trans z) λ Y=>nomatch Y.symm.trans z),p.mono kU (.refl _)⟩
 .have j:=X.above x c (pb e);exact⟨λ _=>(N (dq j)).1,(N (dq j)).2,eF j⟩
theorem mj.of_body {RM vX:aD->Prop}(j:∀A,RM A->cV A (k+1))(U:∀A e,RM A->vX (A.deeper e)){mg mb ln bn}(T:cu V mg mb)(F:fo V f fd body)(J:re pg w V fd args kw loc)(M:ow fd loc)
  (h:∀A L fs,vX A->Ctx A (callEnvC fd L f) fs->XJ pg w V A (callEnvC fd L f) body ⟨loc,ph,fs⟩ ⟨ln,bn,fs⟩ fl):mj pg w V RM f args kw ph bn (zw fl):=by
 intro A ew st I ρ s RR vs c R C gV B jp ly q;subst gV;refine F.enter T J M (j A R) C B jp ly λ{z r s1 d h2 tk L} Z O p E m Q R' Y y=>h _ _ _ (U A _ R) Y _ _ _ _ _ y λ I3 H X g N G D o3 o=>?_
 obtain⟨i9,lu,wL⟩:x03:=E.back m Q N G D.inv D.gens D.No;refine q _ _ _ _ (Z.trans lu) (O.trans G) i9 (o3.trans p) ?_
 cases o with
 |ret u=>exact u.seq wL
 |_=>exact .none
theorem mD.of_body {mg mb ln bn}(T:cu V mg mb)(F:fo V f fd body)(B:re pg w V fd args kw loc)(C:ow fd loc)
  (h:∀A L fs,wn A k->Ctx A (callEnvC fd L f) fs->XJ pg w V A (callEnvC fd L f) body ⟨loc,ph,fs⟩ ⟨ln,bn,fs⟩ fl):mD pg w V (k+1) f args kw ph bn (zw fl):=
 mj.of_body (vX:=λ A=>wn A k) (λ _ R=>R.r0) (λ _ e R=>R.deeper e) T F B C h
theorem nb.of_body {mg mb ln bn}(T:cu V mg mb)(F:fo V f fd body)(B:re pg w V fd args kw loc)(C:ow fd loc)
  (h:∀A L fs,wn A k->Ctx A (callEnvC fd L f) fs->XJ pg w V A (callEnvC fd L f) body ⟨loc,ph,fs⟩ ⟨ln,bn,fs⟩ fl):nb pg w V (k+1) f args kw ph bn (zw fl):=
 (mD.of_body T F B C h).fn
end
theorem js {es:List aF}:∀{st bv:PS}{rs},am pg w V A ew es st bv rs->(starEach es ew).any (·.1)=false/\∀x,starEach es ew≠[(true,x)]:=by
 induction es with
 |nil=>intro st bv rs h;exact⟨rfl,λ x e=>nomatch e⟩
 |cons e es B=>
  intro st bv rs h;apply bd;intro D;obtain⟨al,v,eL,rfl,C,H,G⟩:=h;apply D;rw[C];exact⟨(B G).1,λ x e=>nomatch e⟩
theorem jV {l:List (Bool×Sem Value)}{pos:Pos}(h:l.any (·.1)=false):(backTo pos l).any (·.1)=false:=by
 simpa [backTo,List.any_map,Function.comp_def] using h
theorem fV {f:Value}{st bv:PS}(h:am pg w V A ew es st bv rs)(k:OK pg w V ew st I ρ s)(q:zi pg w V ew bv rs I ρ s (λ vs s'=>Q ⟨vs,[]⟩ s')):
  ag (af pg w) A (evalArgs f true (backTo pos (starEach es ew)) []) Q E s:=by
 have pP:ag (af pg w) A (spliced (backTo pos (starEach es ew))) (λ vs s'=>Q ⟨vs,[]⟩ s') E s:=h.spliced k q;have C:=jV (pos:=pos) (js h).1;generalize backTo pos (starEach es ew)=l at pP C ⊢
 match l,C with
 | [],_=>
  unfold evalArgs;show ag _ _ (spliced [] >>= _) Q E s;refine aa (eY pP (λ vs s' D=>?_) λ _ _ x=>x);refine aQ ?_;exact aa (ah (aa (ah (ah D))))
 |(false,x)::B,_=>exact Calls.evalArgs_plain pP
 |(true,x)::B,e=>cases e
theorem EJ.bq {bn}{RM:aD->Prop}(N:EJ pg w V A ew func st al (.obj f))(b:V f=some o)(Z:o.data = .func fd)(a:am pg w V A ew args al bi vs)
  (L:tA pg w V RM f vs [] bi.ph bn r) (R:RM A) (C:Uf A ew bi.fs)
  (J:eval (.Call func args [] pos) ew=(do du pos (<-eval func ew) [] (backTo pos (starEach args ew)) []):=by rfl):
  EJ pg w V A ew (.Call func args [] pos) st {bi with ph:=bn} r:=λ I i s Q E h q=>by
 rw[J];refine aa (N _ _ _ _ _ h λ d U j v T M cX D Y=>?_);obtain rfl:=Y.inv;refine callWith_function (o:=o) (fd:=fd) (fV a cX λ c B e g O H PP G KM=>⟨⟨PP.inv.lw _ _ (PP.top _ _ b),Z⟩,?_⟩);exact L _ _ _ _ _ _ _ _ _ _ R C rfl PP KM ⟨rfl,.nil⟩ (q.at (T.trans O) (M.trans H) (G.trans D))
def aw (l' l:List (Str×PV)):Prop:=∀x v,l'.lookup x=some v->l.lookup x=some v
theorem aw.nil:aw [] l:=λ _ _ h=>nomatch h
theorem aw.cons (h:l.lookup x=some v)(k:aw l' l):aw ((x,v)::l') l:=λ y u e=>by
 rw[cK] at e
 cases B:y==x with
 |true=>rw[B] at e;exact Option.some.inj e▸beq_iff_eq.mp B▸h
 |false=>rw[B] at e;exact k y u e
noncomputable def J2 (go:Prop)(bi bv:PS)(f:i6):i6->Prop
 | .next=>go
 | .cont=>go
 | .brk=>bv=bi/\f = .next
 | .ret v=>bv=bi/\f = .ret v
def WT (pg:aK)(w:aA)(V:Im)(A:aD)(ew:aB)(test:aF)(body orelse:List aC)(go:PS->Prop)(st bv:PS)(f:i6):Prop:=
 ∃al b,TJ pg w V A ew test st al b/\if b=true then ∃bi g,XJ pg w V A ew body al bi g/\J2 (go bi) bi bv f g else XJ pg w V A ew orelse al bv f
noncomputable def WJ (pg:aK)(w:aA)(V:Im)(A:aD)(ew:aB)(test:aF)(body orelse:List aC):Nat->PS->PS->i6->Prop
 |0,st,bv,f=>WT pg w V A ew test body orelse (λ _=>False) st bv f
 |n+1,st,bv,f=>WT pg w V A ew test body orelse (λ bi=>WJ pg w V A ew test body orelse n bi bv f) st bv f
def vF (pg:aK)(w:aA)(A:aD)(ew:aB)(test:aF)(body orelse:List aC)(Q:Flow->ae->Prop)(E:Value->ae->Prop)(I:Nat->ae->Prop)(n:Nat)(s:ae):Prop:=
 ag (af pg w) A (isTrue test ew (eval test ew)) (λ b s₂=>
  if b then ag (af pg w) A (execs body ew) (λ f s₃=>match f with
    | .next | .cont=>∃m,m<n/\I m s₃
    | .brk=>Q .next s₃
    | .ret v=>Q (.ret v) s₃) E s₂
  else ag (af pg w) A (execs orelse ew) Q E s₂) E s
section
theorem OK.sw (h:OK pg w V ew st I ρ s)(B:aw l st.loc):OK pg w V ew {st with loc:=l} I ρ s:=⟨h.inv,h.fr.weaken B,h.gens,h.top,h.No⟩
theorem XJ.sw (h:XJ pg w V A ew ss st al f)(B:aw l al.loc):XJ pg w V A ew ss st {al with loc:=l} f:=
 λ _ _ _ _ _ k q=>h _ _ _ _ _ k λ _ _ _ _ a b c d e=>q _ _ _ _ a b (c.sw B) d e
theorem SJ.sw (h:SJ pg w V A ew ss st al f)(B:aw l al.loc):SJ pg w V A ew ss st {al with loc:=l} f:=
 λ _ _ _ _ _ k q=>h _ _ _ _ _ k λ _ _ _ _ a b c d e=>q _ _ _ _ a b (c.sw B) d e
theorem XJ.pre (h:XJ pg w V A ew ss {st with loc:=l} al f)(B:aw l st.loc):XJ pg w V A ew ss st al f:=
 λ _ _ _ _ _ k q=>h _ _ _ _ _ (k.sw B) q
theorem SJ.pre (h:SJ pg w V A ew ss {st with loc:=l} al f)(B:aw l st.loc):SJ pg w V A ew ss st al f:=
 λ _ _ _ _ _ k q=>h _ _ _ _ _ (k.sw B) q
theorem TJ.not (h:TJ pg w V A ew x st al b):TJ pg w V A ew (.UnaryOp .Not x pos) st al (!b):=
 λ _ _ _ _ _ k q=>wpAny_isTrue_Not (h _ _ _ _ _ k q)
def VT (pg:aK)(w:aA)(V:Im)(A:aD)(ew:aB)(v:PV)(st:PS)(b:Bool):Prop:=
 ∀I ρ s Q E u,OK pg w V ew st I ρ s->ce I ρ v u->gx pg w V ew st I ρ s (Q b)->ag (af pg w) A (truthy u) Q E s
theorem VT.bool:VT pg w V A ew (.bool b) st b:=λ _ _ _ _ _ _ k B q=>by
 obtain⟨⟩:=B.inv;exact wpAny_truthy_bool (q _ _ _ (.refl _) (.refl _) k rfl)
theorem VT.none:VT pg w V A ew .none st false:=λ _ _ _ _ _ _ k B q=>by
 obtain⟨⟩:=B.inv;exact PyProof.Rows.truthy_none (q _ _ _ (.refl _) (.refl _) k rfl)
theorem VT.lst (D:xs.length<2 ^ 62):VT pg w V A ew (.lst xs) st (!xs.isEmpty):=λ _ _ _ _ _ _ k G q=>by
 obtain⟨_,B,_,rfl,e,r⟩:=G.inv;have C:(!(aM B).isEmpty) = !xs.isEmpty:=by cases r<;>rfl
 exact wpAny_truthy_list (IsL.isList (k.inv.lw _ _ e)) (Int.lt_trans (Int.ofNat_lt.mpr (show B.length<2 ^ 62 from r.length▸D)) (by decide)) (C▸q _ _ _ (.refl _) (.refl _) k.toks rfl)
theorem TJ.val (h:EJ pg w V A ew e st al v)(B:VT pg w V A ew v al b)
  (C:isTrue e ew (eval e ew)=(do let v <-eval e ew;dv e.pos;holding [v] (truthy v)):=by rfl):TJ pg w V A ew e st al b:=
 λ _ _ _ _ _ k q=>wpAny_isTrue_value (h _ _ _ _ _ k λ _ _ _ _ a b c d e=>B _ _ _ _ _ _ c e (q.at a b d)) C
theorem TJ.HW (h:TJ pg w V A ew x st al false):TJ pg w V A ew (.BoolOp .And (x::rest) pos) st al false:=
 λ _ _ _ _ _ k q=>wpAny_isTrue_BoolOp (wpAny_allTrue_And_cons (h _ _ _ _ _ k q))
theorem TJ.ql (h:TJ pg w V A ew x st al true)(B:TJ pg w V A ew (.BoolOp .And rest pos) al bi b):TJ pg w V A ew (.BoolOp .And (x::rest) pos) st bi b:=
 λ _ _ _ _ _ k q=>isTrue_and (h _ _ _ _ _ k λ _ _ _ a b c d=>B _ _ _ _ _ c (q.at a b d))
theorem TJ.and_nil:TJ pg w V A ew (.BoolOp .And [] pos) st st true:=λ _ _ _ _ _ k q=>isTrue_and_nil (q _ _ _ (.refl _) (.refl _) k rfl)
theorem TJ.Ju (h:TJ pg w V A ew x st al true):TJ pg w V A ew (.BoolOp .Or (x::rest) pos) st al true:=
 λ _ _ _ _ _ k q=>wpAny_isTrue_BoolOp (wpAny_allTrue_Or_cons (h _ _ _ _ _ k q))
theorem TJ.m5 (h:TJ pg w V A ew x st al false)(B:TJ pg w V A ew (.BoolOp .Or rest pos) al bi b):TJ pg w V A ew (.BoolOp .Or (x::rest) pos) st bi b:=
 λ _ _ _ _ _ k q=>isTrue_or (h _ _ _ _ _ k λ _ _ _ a b c d=>B _ _ _ _ _ c (q.at a b d))
theorem TJ.or_nil:TJ pg w V A ew (.BoolOp .Or [] pos) st st false:=λ _ _ _ _ _ k q=>isTrue_or_nil (q _ _ _ (.refl _) (.refl _) k rfl)
theorem EJ.GP (H:EJ pg w V A ew x st al v)(G:VT pg w V A ew v al true):EJ pg w V A ew (.BoolOp .Or [x,y] pos) st al v:=
 λ _ _ _ _ _ k q=>wpAny_Or2 (H _ _ _ _ _ k λ _ _ _ _ a b c d e=>G _ _ _ _ _ _ c e λ _ _ _ B C D J=>q _ _ _ _ (a.trans B) (b.trans C) D (J.trans d) (e.mono B C))
theorem EJ.Il (G:EJ pg w V A ew x st al v)(C:VT pg w V A ew v al false)(D:EJ pg w V A ew y al bi u):EJ pg w V A ew (.BoolOp .Or [x,y] pos) st bi u:=
 λ _ _ _ _ _ k q=>wpAny_Or2 (G _ _ _ _ _ k λ _ _ _ _ a b c d e=>C _ _ _ _ _ _ c e λ _ _ _ H J B L=>D _ _ _ _ _ B (q.at (a.trans H) (b.trans J) (L.trans d)))
theorem EJ.fq (J:TJ pg w V A ew t st al b)(C:EJ pg w V A ew (if b then x else y) al bi v):EJ pg w V A ew (.IfExp t x y pos) st bi v:=
 λ _ _ _ _ _ k q=>by
  show ag _ _ (do if <-isTrue t ew (eval t ew) then eval x ew else eval y ew) _ _ _;refine aa (J _ _ _ _ _ k λ _ _ _ D G B H=>?_);cases b
  .exact C _ _ _ _ _ B (q.at D G H)
  .exact C _ _ _ _ _ B (q.at D G H)
theorem EJ.Au (j:EJ pg w V A ew l st al a)(T:EJ pg w V A ew r1 al bi b)(g:CJ pg w V A ew C a b bi x)
  (G:if x then ∃c,EJ pg w V A ew r2 bi lv c/\CJ pg w V A ew B b c lv y else lv=bi/\y=false)
  (f:lastMarks [C,B] [r1,r2]=false:=by with_unfolding_all rfl):
  EJ pg w V A ew (.Compare l [C,B] [r1,r2] pos) st lv (.bool y):=λ I ρ s Q E h q=>
 Compare_chain (j _ _ _ _ _ h λ r k X u dG zn R C d=>chain_link (T _ _ _ _ _ R λ o L s2 v cI cR Z B J=>
  g _ _ _ _ _ _ _ Z (d.mono cI cR) J λ I3 M z v3 we ra H o3 tN=>by
   obtain rfl:=tN.inv;refine wpAny_truthy_bool ?_;have D:=q.at ((dG.trans cI).trans we) ((zn.trans cR).trans ra) (o3.trans (B.trans C));cases x
   .obtain⟨rfl,rfl⟩:x02:=G;exact D.here H (.bool _)
   .obtain⟨c,U,m⟩:=G;exact chain_last (U _ _ _ _ _ H λ p Y s4 v4 Fn Hf N O RG=>m _ _ _ _ _ _ _ N (J.mono (we.trans Fn) (ra.trans Hf)) RG (D.at Fn Hf O)))) f
noncomputable def PV.isNone:PV->Bool
 | .none=>true
 |_=>false
theorem ce.isNone (h:ce I ρ a u):(u==.none)=a.isNone:=
 ce.casesOn (motive_1:=λ a u _=>(u==.none)=a.isNone) h rfl (λ _=>rfl) (λ _ _=>rfl) (λ _ _=>rfl) (λ _ _=>rfl) (λ _ _=>rfl) (λ _=>rfl) (λ _=>rfl) (λ _=>rfl) (λ _=>rfl) (λ _ _=>rfl) (λ _ _=>rfl) (λ _ _=>rfl) (λ _=>rfl)
theorem CJ.is_none {st}:CJ pg w V A ew .Is a .none st a.isNone:=λ I D s Q E u v h B C q=>by
 obtain rfl:=C.inv;refine PySem.is_none ?_;rw[B.isNone];exact q.here h (.bool _)
theorem CJ.isNot_none {st}:CJ pg w V A ew .IsNot a .none st (!a.isNone):=λ I D s Q E u v h B C q=>by
 obtain rfl:=C.inv;refine PySem.isNot_none ?_;rw[B.isNone];exact q.here h (.bool _)
theorem SJ.pass:SJ pg w V A ew (.Pass pos) st st .next:=λ _ _ _ _ _ k q=>wpAny_Pass (q _ _ _ _ (.refl _) (.refl _) k rfl .next)
theorem SJ.brk:SJ pg w V A ew (.Break pos) st st .brk:=λ _ _ _ _ _ k q=>wpAny_Break (q _ _ _ _ (.refl _) (.refl _) k rfl .brk)
theorem SJ.cont:SJ pg w V A ew (.Continue pos) st st .cont:=λ _ _ _ _ _ k q=>wpAny_Continue (q _ _ _ _ (.refl _) (.refl _) k rfl .cont)
theorem XJ.stop (B:SJ pg w V A ew c st al f)(C:f≠.next):XJ pg w V A ew (c::rest) st al f:=
 λ _ _ _ _ _ h q=>wpAny_execs_cons (B _ _ _ _ _ h λ _ _ _ g a b c d e=>by
  have z:=q _ _ _ _ a b c d e
  cases e with
  |next=>exact absurd rfl C
  |_=>exact z)
section
variable {test:aF}{body orelse:List aC}
theorem WJ.done {bi}(n)(C:TJ pg w V A ew test st al false)(B:XJ pg w V A ew orelse al bi f):WJ pg w V A ew test body orelse n st bi f:=by
 cases n<;>exact⟨_,false,C,B⟩
theorem WJ.next (D:TJ pg w V A ew test st al true)(B:XJ pg w V A ew body al bi g)(C:g = .next\/g = .cont)(h:WJ pg w V A ew test body orelse n bi lv f):WJ pg w V A ew test body orelse (n+1) st lv f:=
 ⟨_,true,D,_,_,B,C.elim (λ e=>e▸h) (λ e=>e▸h)⟩
theorem WJ.brk (n)(C:TJ pg w V A ew test st al true)(B:XJ pg w V A ew body al bi .brk):WJ pg w V A ew test body orelse n st bi .next:=by
 cases n<;>exact⟨_,true,C,_,_,B,rfl,rfl⟩
theorem WJ.ret (n)(C:TJ pg w V A ew test st al true)(B:XJ pg w V A ew body al bi (.ret v)):WJ pg w V A ew test body orelse n st bi (.ret v):=by
 cases n<;>exact⟨_,true,C,_,_,B,rfl,rfl⟩
theorem WT.go {go:PS->Prop}(h:WT pg w V A ew test body orelse go st al f)(j:OK pg w V ew st I' ρ' s')(q:iJ pg w V ew al f I' ρ' s' Q)
  (N:∀bi O B J,go bi->nw I' O->pu ρ' B->OK pg w V ew bi O B J->J.os=s'.os->∃m,m<n/\I m J):vF pg w A ew test body orelse Q E I n s':=by
 apply bd;intro R;obtain⟨_,Z,k,L⟩:=h;apply R;refine k _ _ _ _ _ j λ O B J a b c d=>?_
 cases Z with
 |true=>
  apply bd;intro R;obtain⟨bi,g,L,D⟩:=L;apply R;refine L _ _ _ _ _ c λ o U p g C G M H T=>?_
  have C:=a.trans C;have G:=b.trans G;have H:=H.trans d
  cases T with
  |next|cont=>exact N _ _ _ _ D C G M H
  |brk=>exact q _ _ _ _ C G (D.1▸M) H (D.2▸.next)
  |ret Y=>exact q _ _ _ _ C G (D.1▸M) H (D.2▸.ret Y)
 |false=>exact L _ _ _ _ _ c (q.at a b d)
theorem SJ.while (h:WJ pg w V A ew test body orelse n st al f):SJ pg w V A ew (.While test body orelse pos) st al f:=λ I J s Q E k q=>
 wpAny_While (codeAny_whileLoop (λ n C=>∃bv D B,WJ pg w V A ew test body orelse n bv al f/\OK pg w V ew bv D B C/\iJ pg w V ew al f D B C Q) (λ n C h=>by
  show vF pg w A ew test body orelse Q _ _ n C;apply bd;intro H;obtain⟨_,_,_,h,G,q⟩:=h;apply H
  cases n with
  |zero=>exact WT.go h G q λ _ _ _ _ h=>h.elim
  |succ m=>exact WT.go h G q λ _ _ _ _ h a b c d=>⟨m,Nat.lt_succ_self m,_,_,_,h,c,q.at a b d⟩) n ⟨_,_,_,h,k,q⟩)
end
end
noncomputable def Im.del (I:Im)(a:Addr):Im:=λ b=>if b=a then none else I b
noncomputable def Ah:List String:=["enumerate","zip","dict_itemiterator","dict_reverseitemiterator","odict_iterator","itertools.zip_longest","itertools.pairwise"]
structure rg (o:Obj):Prop where
 seq:¬iW o
 cell:∀u,o.data≠.cell u
 own:∀n vs,o.cls = .type n->o.data = .fields vs->Ah.contains n=false
def AJ (pg:aK)(w:aA)(V:Im)(A:aD)(ew:aB)(t:aF)(v:PV)(st bv:PS):Prop:=
 ∀I ρ s Q E u,OK pg w V ew st I ρ s->ce I ρ v u->gx pg w V ew bv I ρ s (Q ())->ag (af pg w) A (assign t ew u) Q E s
noncomputable def qX (NH:aD->Prop)(pg:aK)(w:aA)(H:Im->wl->Heap->Prop):List PV->Obj->Prop
 | [],o=>∀I ρ A s Q E it,NH A->H I ρ s.heap->s.heap.get? it=some o->(∀h' tk,gP it s.heap h'->Q none {s with heap:=h',toks:=tk})->ag (af pg w) A (pyNext (.ref it)) Q E s
 |x::xs,o=>∀I ρ A s Q E it,H I ρ s.heap->s.heap.get? it=some o ->
   (∀v o' h' tk,ce I ρ x v->h'.get? it=some o'->rg o'->gP it s.heap h'->qX NH pg w H xs o'->Q (some v) {s with heap:=h',toks:=tk})->ag (af pg w) A (pyNext (.ref it)) Q E s
noncomputable abbrev JF (A:aD):Prop:=A.handled=none
noncomputable abbrev oW (pg:aK)(w:aA)(H:Im->wl->Heap->Prop)(xs:List PV)(o:Obj):Prop:=qX JF pg w H xs o
def oP (pg:aK)(w:aA)(o:Obj):Prop:=∀A s Q E it,s.heap.get? it=some o->Q (.ref it) s->ag (af pg w) A (pyIter (.ref it)) Q E s
noncomputable def sh (NH:aD->Prop)(pg:aK)(w:aA)(V:Im)(A:aD)(ew:aB)(v:PV)(st:PS)(xs:List PV)(Hd:List PO->Prop):Prop:=
 ∀I ρ s Q E u,OK pg w V ew st I ρ s->ce I ρ v u ->
  (∀(H:Im->wl->Heap->Prop) o tk,(∀bn I' ρ' h',Hd bn->nw I I'->pu ρ ρ'->Do pg w I' ρ' bn h'->H I' ρ' h')->qX NH pg w H xs o->rg o->o.isFreed=false->oP pg w o ->
   Q (.ref s.heap.objs.size) {s with heap:=s.heap.push o,toks:=tk})->ag (af pg w) A (pyIter u) Q E s
abbrev rc (pg:aK)(w:aA)(V:Im)(A:aD)(ew:aB)(v:PV)(st:PS)(xs:List PV)(Hd:List PO->Prop):Prop:=sh JF pg w V A ew v st xs Hd
noncomputable def FJ (pg:aK)(w:aA)(V:Im)(A:aD)(ew:aB)(Hd:List PO->Prop)(target:aF)(body orelse:List aC):List PV->PS->PS->i6->Prop
 | [],st,bv,f=>Hd st.ph/\XJ pg w V A ew orelse st bv f
 |x::xs,st,bv,f=>Hd st.ph/\∃al bi g,AJ pg w V A ew target x st al/\XJ pg w V A ew body al bi g/\J2 (FJ pg w V A ew Hd target body orelse xs bi bv f) bi bv f g
structure Sc (ew:aB)(st:PS)(I:Im)(ρ:wl)(a:Addr):Prop where
 im:I a=none
 gB:a∉ρ.flatten
 fr:¬jA ew a
 fs:a∉st.fs.map (·.1)
section
section
variable {Hd:List PO->Prop}{target:aF}{body orelse:List aC}
theorem FJ.done (h:Hd st.ph)(hx:XJ pg w V A ew orelse st al f):FJ pg w V A ew Hd target body orelse [] st al f:=⟨h,hx⟩
theorem FJ.next (h:Hd st.ph)(G:AJ pg w V A ew target x st al)(D:XJ pg w V A ew body al bi g)(C:g = .next\/g = .cont)(B:FJ pg w V A ew Hd target body orelse xs bi lv f):FJ pg w V A ew Hd target body orelse (x::xs) st lv f:=
 ⟨h,_,_,_,G,D,C.elim (λ e=>e▸B) (λ e=>e▸B)⟩
theorem FJ.brk (h:Hd st.ph)(C:AJ pg w V A ew target x st al)(B:XJ pg w V A ew body al bi .brk):FJ pg w V A ew Hd target body orelse (x::xs) st bi .next:=⟨h,_,_,_,C,B,rfl,rfl⟩
theorem FJ.ret (h:Hd st.ph)(C:AJ pg w V A ew target x st al)(B:XJ pg w V A ew body al bi (.ret v)):FJ pg w V A ew Hd target body orelse (x::xs) st bi (.ret v):=⟨h,_,_,_,C,B,rfl,rfl⟩
end
theorem Do.extBut (H:Do pg w I ρ ph h)(C:gP x h h')(hx:I x=none)(D:x∉ρ.flatten):Do pg w I ρ ph h':=
 ⟨λ a o e=>C a o (λ q=>bu (hx.symm.trans (q▸e))) (H.lw a o e),H.len,λ n o G e1 e2=>(H.obj n o G e1 e2).mono _ _ (.refl _) (.refl _) λ a B J e=>C a J (λ q=>D (q▸H.mem e2 B)) e,H.wv,λ a B=>by
  obtain⟨M,o,L⟩:x0211:=H.out a B;exact⟨M,o,C a o (λ q=>D (q▸B)) L⟩⟩
theorem IO.extBut (F:IO ew loc I ρ h)(C:gP x h h')(hx:¬jA ew x):IO ew loc I ρ h':=by
 apply bd;intro B;obtain⟨m,D,G⟩:=F.ns;apply B;refine⟨⟨m,D.extBut C (λ e=>hx (.inl e.symm)),G⟩,λ y c e=>?_,F.bt,F.cout,F.apart⟩;apply bd;intro B;obtain⟨u,⟨o,J,H⟩,r⟩:=F.cell y c e;apply B;exact⟨u,⟨o,C c o (λ q=>hx (.inr ⟨y,q▸e⟩)) J,H⟩,r⟩
theorem fz.extBut (H:fz ew fs I ρ h)(C:gP x h h')(hx:x∉fs.map (·.1)):fz ew fs I ρ h':=λ p B=>by
 obtain⟨⟨o,e,d⟩,r⟩:x02:=H p B;exact⟨⟨o,C _ _ (λ q=>hx (q▸nr B)) e,d⟩,r⟩
theorem OK.extBut (h:OK pg w V ew st I ρ s)(B:gP x s.heap h')(hx:I x=none)(D:x∉ρ.flatten)(G:¬jA ew x)(C:x∉st.fs.map (·.1)):OK pg w V ew st I ρ {s with heap:=h',toks:=tk}:=
 ⟨h.inv.extBut B hx D,h.fr.extBut B G,h.gens,h.top,h.No.extBut B C⟩
theorem OK.ext (h:OK pg w V ew st I ρ s)(B:gP x s.heap h')(O:Sc ew st I ρ x):OK pg w V ew st I ρ {s with heap:=h',toks:=tk}:=h.extBut B O.im O.gB O.fr O.fs
theorem Fa {I:Im}(h:I a=none):nw I (I.put a o):=λ b B e=>have n:b≠a:=λ q=>bu (h.symm.trans (q▸e));(Im.jR n).trans e
theorem Im.JY {I:Im}:I.del a a=none:=if_pos rfl
theorem Im.xE {I:Im}(h:b≠a):I.del a b=I b:=if_neg h
theorem Im.wi {I:Im}(h:I b=none):I.del a b=none:=by unfold Im.del;rw[h];exact ite_self _
theorem Im.wN {I B:Im}(h:I a=none)(l:nw I B):nw I (B.del a):=λ b C e=>have n:b≠a:=λ q=>bu (h.symm.trans (q▸e));(Im.xE n).trans (l b C e)
theorem IO.HU (F:IO ew loc I ρ h)(C:ib I I')(B:∀b,jA ew b->I b=none->I' b=none):IO ew loc I' ρ h:=
 ⟨by obtain⟨m,B,D⟩:=F.ns;exact ⟨m,B,λ x v e k=>by obtain⟨u,p,q⟩:=D x v e k;exact ⟨u,p,q.seq C⟩⟩,λ x c e=>by obtain⟨u,p,q⟩:=F.cell x c e;exact ⟨u,p,λ v e k=>by obtain⟨G,r,t⟩:=q v e k;exact ⟨G,r,t.seq C⟩⟩,
  ⟨B _ (.inl rfl) F.bt.1,F.bt.2⟩,λ x c e=>⟨λ q=>B _ (.inr ⟨x,e⟩) ((F.cout x c e).1 q),(F.cout x c e).2⟩,F.apart⟩
theorem OK.freeze (h:OK pg w V ew st I ρ s)(O:Sc ew st I ρ a)(R:s.heap.get? a=some o):OK pg w V ew st (I.put a o) ρ s:=by
 have G:=Fa (o:=o) O.im;have D:∀b,b≠a->I b=none->I.put a o b=none:=λ b q e=>(Im.jR q).trans e
 refine⟨⟨λ b C e=>?_,h.inv.len,λ n C J e1 e2=>(h.inv.obj n C J e1 e2).mono _ _ G (.refl _) λ _ _ _ e=>e,h.inv.wv,λ b B=>by obtain⟨p,r⟩:x02:=h.inv.out b B;exact ⟨D b (λ q=>O.gB (q▸B)) p,r⟩⟩,
  h.fr.HU G.seq λ b B e=>D b (λ q=>O.fr (q▸B)) e,h.gens,h.top.trans G,λ p H=>by obtain⟨M,L,N⟩:x03:=h.No p H;exact ⟨M,D _ (λ q=>O.fs (q▸nr H)) L,N⟩⟩
 by_cases q:b=a
 .subst q;exact R.trans (Im.XV.symm.trans e)
 .exact h.inv.lw b C ((Im.jR q).symm.trans e)
theorem OK.AX (h:OK pg w V ew st I ρ s)(B:I a=some o)(QW:¬iW o)(tE:∀u,o.data≠.cell u)(h0:V a=none):
  OK pg w V ew st (I.del a) ρ s/\Sc ew st (I.del a) ρ a:=by
 have L:a∉ρ.flatten:=λ T=>bu ((h.inv.out a T).1.symm.trans B)
 have M:¬jA ew a:=λ q=>by
  obtain⟨_,E,Y,O⟩:x0212:=h.fr.ma q
  rcases q with q|q
  .exact bu (h.fr.bt.1.symm.trans (q▸B))
  .obtain⟨u,R⟩:=O q;exact tE u (Option.some.inj (Y.symm.trans (h.inv.lw _ _ B))▸R)
 have G:ib I (I.del a):=λ b C e Z=>have n:b≠a:=λ q=>QW (Option.some.inj (B.symm.trans (q▸e))▸Z);(Im.xE n).trans e
 refine⟨⟨⟨λ b C e=>?_,h.inv.len,λ n C H e1 e2=>(h.inv.obj n C H e1 e2).seq G,h.inv.wv,λ b J=>by obtain⟨p,r⟩:x02:=h.inv.out b J;exact ⟨Im.wi p,r⟩⟩,h.fr.HU G λ b _ e=>Im.wi e,h.gens,
  Im.wN h0 h.top,λ p D=>by obtain⟨U,N,Q⟩:x03:=h.No p D;exact ⟨U,Im.wi N,Q⟩⟩,Im.JY,L,M,λ q=>?_⟩
 .by_cases q:b=a
  .subst q;exact bu (Im.JY.symm.trans e)
  .exact h.inv.lw b C ((Im.xE q).symm.trans e)
 .obtain⟨p,D,e⟩:=aI.mp q;exact bu ((h.No p D).2.1.symm.trans (e▸B))
theorem Y7 (t:aF)(it v:Value):j3 t it v=j3 (.Tuple [] 0 default) it v\/j3 t it v=aq ():=by
 cases t<;>first|exact .inl rfl|exact .inr rfl
theorem SW {t:aF}{it:Addr}{o:Obj}{v:Value}{s:ae}{Q:Unit->ae->Prop}(G:s.heap.get? it=some o)(hi:rg o)(q:Q () s):ag (af pg w) A (j3 t (.ref it) v) Q E s:=by
 rcases Y7 t (.ref it) v with h|h
 .rw[h]
  cases v with
  |ref a=>
   refine aa (wpAny_load G ?_);obtain(⟨C,_,B,_⟩):=o
   cases C with
   |type n=>cases B with
    |fields D=>
     have:=hi.own n D rfl rfl;unfold Ah at this;dsimp only;rw[this];exact ah q
    |_=>exact ah q
   |_=>exact ah q
  |_=>exact ah q
 .rw[h];exact ah q
end
theorem SP {R:Result->ae->Prop}{target:aF}{ew}{s:ae}(I:Nat->ae->Prop)
  (J:∀n s,I n s->ag (af pg w) A (pyNext it) (λ r s₁=>match r with
   |none=>ag (af pg w) A (execs orelse ew) (λ f B=>R (.ok f) B) (notedBy (af pg w) A ew λ e s'=>R (.error e) s') s₁
   |some v=>ag (af pg w) A (j3 target it v) (λ _ s₁=>ag (af pg w) A (assign target ew v) (λ _ s₂=>ag (af pg w) A (execs body ew) (λ f B=>match f with
     | .next | .cont=>∃m,m<n/\I m B
     | .brk=>R (.ok .next) B
     | .ret v=>R (.ok (.ret v)) B) (notedBy (af pg w) A ew λ e s'=>R (.error e) s') s₂) (notedBy (af pg w) A ew λ e s'=>R (.error e) s') s₁) (notedBy (af pg w) A ew λ e s'=>R (.error e) s') s₁) (notedBy (af pg w) A ew λ e s'=>R (.error e) s') s)
  (n:Nat) (h:I n s):codeAny (af pg w) A (.forLoop target it body orelse ew) R s:=by
 refine codeAny_loop' rfl I (λ n s L=>?_) n h;show ag _ _ ((forTurn target it body orelse ew).onRaise (λ x=>do noteFrame x ew;theTreesLotGoes x)) _ _ s;refine wpAny_noted ?_;simp only[forTurn];refine aa (a9 (aa (wpAny_onRaise (eY (J n s L) (λ r s₁ G=>?_) λ _ _ H=>a9 H))))
 cases r with
 |none=>exact ah (.inr ⟨rfl,codeAny_block G⟩)
 |some v=>
  refine aa (eY G (λ _ s₂ D=>?_) λ _ _ H=>H);refine aa (eY D (λ _ s₂ D=>aa (eY D (λ f B C=>?_) λ _ _ H=>H)) λ _ _ H=>H)
  cases f with
  |next=>exact ah (.inl ⟨rfl,C⟩)
  |cont=>exact ah (.inl ⟨rfl,C⟩)
  |brk=>exact ah C
  |ret v=>exact ah C
noncomputable def jI (pg:aK)(w:aA)(V:Im)(A:aD)(ew:aB)(Hd:List PO->Prop)(t:aF)(it:Value):List PV->PS->Im->wl->ae->Prop
 | [],st,I,ρ,s=>Hd st.ph->∀Q E,(∀s',OK pg w V ew st I ρ s'->s'.os=s.os->Q none s')->ag (af pg w) A (pyNext it) Q E s
 |x::xs,st,I,ρ,s=>Hd st.ph->∀Q E,(∀v s1,(∀Q E,(∀I2 s2,nw I I2->OK pg w V ew st I2 ρ s2->s2.os=s.os->ce I2 ρ x v ->
   (∀fM I5 ρ5 s5,nw I2 I5->pu ρ ρ5->OK pg w V ew fM I5 ρ5 s5->∃I6,nw I I6/\OK pg w V ew fM I6 ρ5 s5/\jI pg w V A ew Hd t it xs fM I6 ρ5 s5)->Q () s2) ->
    ag (af pg w) A (j3 t it v) Q E s1)->Q (some v) s1)->ag (af pg w) A (pyNext it) Q E s
theorem qX.feed {NH:aD->Prop}{H:Im->wl->Heap->Prop}(u:NH A)(h0:V it=none):∀{xs st I G s o},qX NH pg w H xs o->rg o->s.heap.get? it=some o->Sc ew st I G it ->
  (∀bn C B h',Hd bn->nw I C->pu G B->Do pg w C B bn h'->H C B h')->OK pg w V ew st I G s->jI pg w V A ew Hd t (.ref it) xs st I G s:=by
 intro xs
 induction xs with
 |nil=>exact λ J _ N O D k M Q E q=>J _ _ _ _ _ _ _ u (D _ _ _ _ M (.refl _) (.refl _) k.inv) N λ h' m L=>q _ (k.ext L O) rfl
 |cons x xs g=>
  exact λ J _ N O D k M Q E q=>J _ _ _ _ _ _ _ (D _ _ _ _ M (.refl _) (.refl _) k.inv) N λ v z h' m r ik w2 L yw=>q v _ λ Q E q=>
  SW ik w2 (q _ _ (Fa O.im) ((k.ext L O).freeze O ik) rfl (r.mono (Fa O.im) (.refl _)) λ fM X d y a b Y=>
   have T:=a _ _ Im.XV;have⟨R,f⟩:=Y.AX T w2.seq w2.cell h0;have U:=Im.wN O.im ((Fa O.im).trans a)
   ⟨_,U,R,g yw w2 (Y.inv.lw _ _ T) f (λ bn C B h' Z p j c=>D bn C B h' Z (U.trans p) (b.trans j) c) R⟩)
def HM (pg:aK)(w:aA)(A:aD)(ew:aB)(target:aF)(it:Value)(body orelse:List aC)(Q:Flow->ae->Prop)(E:Value->ae->Prop)(I:Nat->ae->Prop)(n:Nat)(s:ae):Prop:=
 ag (af pg w) A (pyNext it) (λ r s₁=>match r with
   |none=>ag (af pg w) A (execs orelse ew) Q E s₁
   |some v=>ag (af pg w) A (j3 target it v) (λ _ s₁=>ag (af pg w) A (assign target ew v) (λ _ s₂=>ag (af pg w) A (execs body ew) (λ f s₃=>match f with
     | .next | .cont=>∃m,m<n/\I m s₃
     | .brk=>Q .next s₃
     | .ret v=>Q (.ret v) s₃) E s₂) E s₁) E s₁) E s
theorem FJ.go {J:Nat->ae->Prop}(O:FJ pg w V A ew Hd target body orelse xs st al f)(k:OK pg w V ew st I B s)(N:jI pg w V A ew Hd target it xs st I B s)(q:iJ pg w V ew al f I B s Q)
  (p:n=xs.length) (hJ:∀xs bi I B s,FJ pg w V A ew Hd target body orelse xs bi al f->OK pg w V ew bi I B s->jI pg w V A ew Hd target it xs bi I B s->iJ pg w V ew al f I B s Q->J xs.length s):HM pg w A ew target it body orelse Q E J n s:=by
 cases xs with
 |nil=>
  obtain⟨G,y⟩:x02:=O;exact N G _ _ λ s' u d=>y _ _ _ _ _ u (q.at (.refl _) (.refl _) d)
 |cons x xs=>
  subst p;apply bd;intro L;obtain⟨G,_,bi,g,ha,o,C⟩:x0233:=O;apply L;refine N G _ _ λ v s1 m=>m _ _ λ I2 s2 R k2 z M D=>ha _ _ _ _ _ _ k2 M λ I4 ρ4 s4 c X Y d4=>o _ _ _ _ _ Y λ I5 r s5 g5 Z b5 H j U=>?_
  have a:=c.trans Z;have b:=X.trans b5;have d:=(j.trans d4).trans z
  cases U with
  |next|cont=>
   apply bd;intro L;obtain⟨I6,l6,T,f6⟩:x13:=D _ _ _ _ a b H;apply L;exact⟨_,Nat.lt_succ_self _,hJ _ _ _ _ _ C T f6 (q.at l6 b d)⟩
  |brk=>exact q _ _ _ _ (R.trans a) b (C.1▸H) d (C.2▸.next)
  |ret M=>exact q _ _ _ _ (R.trans a) b (C.1▸H) d (C.2▸.ret M)
theorem FJ.run (D:FJ pg w V A ew Hd target body orelse xs st al f)(k:OK pg w V ew st I B s)(C:jI pg w V A ew Hd target it xs st I B s)(q:iJ pg w V ew al f I B s Q):
  codeAny (af pg w) A (.forLoop target it body orelse ew) (λ r s'=>match r with | .ok f=>Q f s' | .error e=>cameBackBy (af pg w) A ew E e s') s:=
 SP (λ n s'=>∃xs bi I B,n=xs.length/\FJ pg w V A ew Hd target body orelse xs bi al f/\OK pg w V ew bi I B s'/\jI pg w V A ew Hd target it xs bi I B s'/\iJ pg w V ew al f I B s' Q) (λ n s' h=>by
  show HM pg w A ew target it body orelse Q _ _ n s';apply bd;intro H;obtain⟨_,_,_,_,G,D,k,C,q⟩:=h;apply H;exact D.go k C q G λ xs bi I B s a b c d=>⟨xs,bi,I,B,rfl,a,b,c,d⟩) xs.length ⟨_,_,_,_,rfl,D,k,C,q⟩
theorem OK.zero {a:Addr}(k:OK pg w V ew st I ρ s)(h:I a=none):V a=none:=by
 cases e:V a with
 |none=>rfl
 |some x=>exact bu (h.symm.trans (k.top _ _ e))
theorem dE {a:Addr}(k:OK pg w V ew st I ρ s)(G:s.heap.objs.size<=a):Sc ew st I ρ a:=by
 have B:∀{o},¬s.heap.get? a=some o:=λ e=>absurd (bP e) (Nat.not_lt.mpr G)
 refine⟨?_,λ D=>by obtain⟨_,_,e⟩:x0211:=k.inv.out a D;exact B e,λ q=>by obtain⟨_,_,e,_⟩:x0212:=k.fr.ma q;exact B e,λ q=>?_⟩
 .cases e:I a with
  |none=>rfl
  |some o=>exact(B (k.inv.lw _ _ e)).elim
 .obtain⟨p,C,e⟩:=aI.mp q;obtain⟨⟨_,z,_⟩,_⟩:x02:=k.No p C;exact B (e▸z)
theorem SJ.for (j:A.handled=none)(U:EJ pg w V A ew iter st al v)(N:rc pg w V A ew v al xs Hd)(T:FJ pg w V A ew Hd target body orelse xs al bi f)
  (M:∀x,iD iter ew x=aq x:=by intro _;rfl):SJ pg w V A ew (.For target iter body orelse pos) st bi f:=λ I p s Q E k q=>
 wpAny_For (U _ _ _ _ _ k λ m d g u c R B J L=>N _ _ _ _ _ _ B L λ H o Y Z C nN D _=>
  have O:=dE B (aJ _);have G:=(B.grow (.push g.heap o)).toks (k:=Y)
  T.run G (C.feed j (B.zero O.im) nN (cj _ D) O Z G) (q.at c R J)) M
theorem jS {α:Type}{l:List α}{d:Nat}{x:α}{r:List α}(h:l.drop d=x::r):l[d]? = some x:=by rw[<-List.head?_drop,h];rfl
theorem fN {o:Obj}{n:String}{vs:Array Value}(G:o.cls = .type n)(D:o.data = .fields vs)(B:(Ah.contains n||(n == "range" || (n == "method-wrapper" || n == "dict_values")))=false)(H:J1 vs=false:=by rfl):rg o:=
 ⟨(by
  have C:=Bool.or_eq_false_iff.mp (Bool.or_eq_false_iff.mp B).2;have oS:=Bool.or_eq_false_iff.mp C.2;unfold iW;rw[D,G];exact λ e=>e.elim (λ e=>ne_of_beq_false C.1 (Value.type.inj e)) λ e=>e.elim (λ e=>ne_of_beq_false oS.1 (Value.type.inj e)) λ e=>e.elim (λ e=>ne_of_beq_false oS.2 (Value.type.inj e)) λ e=>nt (H.symm.trans e)),(λ u e=>nomatch D.symm.trans e),(λ m eL e _=>Value.type.inj (G.symm.trans e)▸(Bool.or_eq_false_iff.mp B).1)⟩
theorem E8 {l:Addr}(H:Im->wl->Heap->Prop)(R:∀I D h,H I D h->∃items n,IsL h l (aM items) n/\lm I D xs items):
  ∀(ys:List PV) (k:Nat) (o:Obj),xs.drop k=ys->o.cls = .type "list_iterator"->o.data = .fields #[.ref l,.int k 0]->oW pg w H ys o:=by
 intro ys
 induction ys with
 |nil=>
  intro k o C M G I D A s Q E d g N J q;obtain⟨items,n,a,b⟩:=R _ _ _ N;refine wpAny_pyNext_list_end (l:=l) (i:=k) g ⟨_,J,M,G⟩ a.isList ?_ λ L f=>q L s.toks f
  rw[gR];exact lG (b.length▸uI.mp C)
 |cons y ys Y=>
  intro k o C M G I D A s Q E d N J q;obtain⟨items,n,a,b⟩:=R _ _ _ N;have U:=jS C;obtain⟨v,Z,T⟩:=b.get U;refine wpAny_pyNext_list_item (l:=l) (i:=k) (x:=v) ⟨_,J,M,G⟩ a.isList (gR.trans Z) λ L ⟨O,v6,eS,B⟩ c=>?_
  refine q v O L s.toks T v6 (fN eS B (by decide)) c.extBut (Y (k+1) O ?_ eS B);rw[<-List.drop_drop,C];rfl
theorem Ze {l:Addr}(H:Im->wl->Heap->Prop)(T:∀I D h,H I D h->∃items n,IsT h l (aM items) n/\lm I D xs items):
  ∀(ys:List PV) (k:Nat) (o:Obj),xs.drop k=ys->o.cls = .type "tuple_iterator"->o.data = .fields #[.ref l,.int k 0]->oW pg w H ys o:=by
 intro ys
 induction ys with
 |nil=>
  intro k o C M G I D A s Q E f j N J q;apply bd;intro O;obtain⟨items,n,a,b⟩:=T _ _ _ N;apply O;refine wpAny_pyNext_tuple_end (t:=l) (i:=k) j ⟨_,J,M,G⟩ ⟨_,a,rfl,_,rfl⟩ ?_ λ L g=>q L s.toks g
  rw[gR];exact lG (b.length▸uI.mp C)
 |cons y ys Z=>
  intro k o C M G I D A s Q E f N J q;apply bd;intro O;obtain⟨items,n,a,b⟩:=T _ _ _ N;have Y:=jS C;obtain⟨v,c,U⟩:=b.get Y;apply O;refine wpAny_pyNext_tuple_item (t:=l) (i:=k) (x:=v) ⟨_,J,M,G⟩ ⟨_,a,rfl,_,rfl⟩ (gR.trans c) λ L ⟨R,v6,eS,B⟩ d=>?_
  refine q v R L s.toks U v6 (fN eS B (by decide)) d.extBut (Z (k+1) R ?_ eS B);rw[<-List.drop_drop,C];rfl
theorem z6 {l:Addr}{i:Nat}:oP pg w {cls:=.type "list_iterator",data:=.fields #[.ref l,.int i 0]}:=λ A s Q E B h q=>wpAny_pyIter_listiter (l:=l) (i:=i) ⟨_,h,rfl,rfl⟩ q
theorem O0 {l:Addr}{i:Nat}:oP pg w {cls:=.type "tuple_iterator",data:=.fields #[.ref l,.int i 0]}:=λ A s Q E B h q=>wpAny_pyIter_tupleiter (t:=l) (i:=i) ⟨_,h,rfl,rfl⟩ q
theorem Do.list {n:Nat}(k:Do pg w I ρ ph h)(B:ph[n]? = some (.list xs))(e:ρ[n]? = some (a::r)):∃items m,IsL h a (aM items) m/\lm I ρ xs items:=by
 obtain⟨_,items,m,q,C,D⟩:=k.obj n _ _ B e;exact⟨items,m,(List.cons.inj q).1▸C,D⟩
theorem rc.lst:rc pg w V A ew (.lst xs) st xs (λ _=>True):=λ I O s Q E u k L q=>by
 apply bd;intro N;obtain⟨a,B,n,rfl,e,r⟩:=L.inv;apply N;exact wpAny_pyIter_list (IsL.isList (k.inv.lw _ _ e))<|q (λ D C h=>IsL h a (aM B) n/\lm D C xs B) _ s.toks (λ bn D C R _ G J M=>⟨M.lw _ _ (G _ _ e),r.mono G J⟩)
   (E8 _ (λ I O h H=>⟨_,_,H.1,H.2⟩) xs 0 _ rfl rfl rfl) (fN rfl rfl (by decide)) rfl z6
theorem rc.tup:rc pg w V A ew (.tup xs) st xs (λ _=>True):=λ I N s Q E u k L q=>by
 obtain⟨a,B,n,rfl,e,r⟩:=L.inv;exact wpAny_pyIter_tuple ⟨_,k.inv.lw _ _ e,rfl,_,rfl⟩<|q (λ D C h=>IsT h a (aM B) n/\lm D C xs B) _ s.toks (λ bn D C O _ G J M=>⟨M.lw _ _ (G _ _ e),r.mono G J⟩)
   (Ze _ (λ I N h H=>⟨_,_,H.1,H.2⟩) xs 0 _ rfl rfl rfl) (fN rfl rfl (by decide)) rfl O0
theorem rc.ref (h:st.ph[n]? = some (.list xs)):rc pg w V A ew (.ref n) st xs (λ ph=>ph[n]? = some (.list xs)):=λ I H s Q E u k N q=>by
 apply bd;intro R;obtain⟨a,r,rfl,e⟩:=N.inv;have at_:∀bn D C G,bn[n]? = some (.list xs)->nw I D->pu H C->Do pg w D C bn G->∃B k,IsL G a (aM B) k/\lm D C xs B:=λ bn D C G M U J O=>O.list M (J _ _ e)
 obtain⟨B,Y,L,Z⟩:=at_ st.ph I H s.heap h (.refl _) (.refl _) k.inv;apply R;exact wpAny_pyIter_list L.isList<|q (λ D C h=>∃B k,IsL h a (aM B) k/\lm D C xs B) _ s.toks at_ (E8 _ (λ I H h T=>T) xs 0 _ rfl rfl rfl) (fN rfl rfl (by decide)) rfl z6
theorem AJ.name (K:ut ew)(hx:az ew x):AJ pg w V A ew (.Name x p) v st {st with loc:=(x,v)::st.loc}:=
 λ I C s Q E u k B q=>wpAny_assign_Name (qt K hx k B q)
def GJ (pg:aK)(w:aA)(V:Im)(A:aD)(ew:aB)(a b:PV)(st:PS)(r:PV):Prop:=
 ∀I ρ s Q E u v,OK pg w V ew st I ρ s->ce I ρ a u->ce I ρ b v->ZB pg w V ew st r I ρ s Q->ItemOn (af pg w) A E u v Q s
theorem EJ.sub (p:EJ pg w V A ew value st al a)(c:EJ pg w V A ew slice al bi b)(m:GJ pg w V A ew a b bi r)
  (j:∀o i,subscripted slice false o i=operate [o,i] (getItem o i):=by intro _ _;rfl):EJ pg w V A ew (.Subscript value slice pos) st bi r:=λ I ρ s Q E k q=>by
 rw[eval_Subscript];refine aa (p _ _ _ _ _ k λ I1 z s1 u U R Y X g=>aa (aQ (c _ _ _ _ _ Y λ N D M v J H k2 Z f=>aa (a9 ?_))));apply bd;intro y;obtain⟨T,id,O,L,d⟩:=m N D M Q E u v k2 (g.mono J H) f (q.at (U.trans J) (R.trans H) (Z.trans X));apply y;refine aa ?_;rw[getitemInPython_of_ne L.not_modules];refine aa (wpAny_specialOf L O ?_);have G:ag (af pg w) A (operate [u,v] (getItem u v)) (λ r B=>ag (af pg w) A (letTemporaryGo value u r >>= λ _=>aq r) Q E B) E M:=
  wpAny_operating (eY d (λ r B C=>aa (wpAny_letTemporaryGo (ah C))) λ _ _ x=>x)
 refine ah (aa ?_);rw[j];exact G
theorem GJ.lst (h0:0<=i)(C:i<2 ^ 63)(hx:xs[i.toNat]? = some x):GJ pg w V A ew (.lst xs) (.int i) st x:=λ I J s Q E u v k G D q=>by
 obtain⟨_,rfl⟩:=D.inv;obtain⟨_,_,_,rfl,e,r⟩:=G.inv;obtain⟨y,H,B⟩:=r.get hx;exact⟨_,_,list_getitem_lookup,⟨_,k.inv.lw _ _ e,rfl⟩,wpAny_getItem_list (IsL.isList (k.inv.lw _ _ e)) h0 C (gR.trans H) (q.here k B)⟩
theorem GJ.S9 (h0:i<0)(H:-(xs.length:Int)<=i)(C:-(2 ^ 63)<=i)(hx:xs[(i+xs.length).toNat]? = some x):GJ pg w V A ew (.lst xs) (.int i) st x:=λ I M s Q E u v k G D q=>by
 apply bd;intro J;obtain⟨_,rfl⟩:=D.inv;obtain⟨_,_,_,rfl,e,r⟩:=G.inv;obtain⟨y,L,B⟩:=r.get hx;apply J;refine⟨_,_,list_getitem_lookup,⟨_,k.inv.lw _ _ e,rfl⟩,wpAny_getItem_list_neg (IsL.isList (k.inv.lw _ _ e)) h0 ?_ C ?_ (q.here k B)⟩
 .rw[dJ,<-r.length];exact H
 .rw[dJ,<-r.length];exact gR.trans L
theorem GJ.str {x:Str}{i:Int}{c:Nat}(C:fitsSsize i=true)(B:Txt.charAt x i=some c):GJ pg w V A ew (.str x) (.int i) st (.str ⟨#[c]⟩):=λ I H s Q E u v k D G q=>by
 obtain⟨_,rfl⟩:=G.inv;obtain⟨_,rfl⟩:=D.inv;refine⟨_,_,F.slot_str_getitem.lookup,typeIs_str _ _ _,SB.getItem C (by rw[B];rfl) ?_⟩;have e:Txt.item x i=⟨#[c]⟩:=by unfold Txt.item;rw[B];rfl
 rw[e];exact q.toks k (.str _ _)
theorem GJ.Sp (J:st.ph[n]? = some (.list xs))(h0:i<0)(M:-(xs.length:Int)<=i)(G:-(2 ^ 63)<=i)(hx:xs[(i+xs.length).toNat]? = some x):GJ pg w V A ew (.ref n) (.int i) st x:=λ I T s Q E u v k L H q=>by
 apply bd;intro N;obtain⟨_,rfl⟩:=H.inv;obtain⟨_,_,rfl,e⟩:=L.inv;obtain⟨B,R,C,r⟩:=k.inv.list J e;obtain⟨y,O,D⟩:=r.get hx;apply N;refine⟨_,_,list_getitem_lookup,⟨_,C,rfl⟩,wpAny_getItem_list_neg (IsL.isList C) h0 ?_ G ?_ (q.here k D)⟩
 .rw[dJ,<-r.length];exact M
 .rw[dJ,<-r.length];exact gR.trans O
def PJ (pg:aK)(w:aA)(V:Im)(A:aD)(ew:aB)(p:Option aF)(st bv:PS)(k:Option Int):Prop:=
 ∀I ρ s Q E,OK pg w V ew st I ρ s->(∀I' ρ' s' v,nw I I'->pu ρ ρ'->OK pg w V ew bv I' ρ' s'->s'.os=s.os->(∃l:Option (Int×Tok),v=partValue l/\l.map (·.1)=k)->Q v s')->ag (af pg w) A (evalPart p ew) Q E s
theorem PJ.none:PJ pg w V A ew none st st none:=λ I B s Q E k q=>by
 rw[evalPart_none];exact ah (q _ _ _ _ (.refl _) (.refl _) k rfl ⟨.none,rfl,rfl⟩)
theorem PJ.some (h:EJ pg w V A ew e st al (.int i)):PJ pg w V A ew (some e) st al (some i):=λ I C s Q E k q=>by
 rw[evalPart_some];exact h _ _ _ _ _ k λ _ _ _ _ a b c d B=>by obtain⟨t,rfl⟩:=B.inv;exact q _ _ _ _ a b c d ⟨.some (i,t),rfl,rfl⟩
theorem Jy (B:v=partValue l)(C:l.map (·.1)=k):IsPart v k:=by
 subst B C
 cases l with
 |none=>exact .none
 |some x=>obtain(⟨i,t⟩):=x;exact .int i t
theorem lm.drop:∀{xs vs},lm I ρ xs vs->∀k,lm I ρ (xs.drop k) (vs.drop k)
 |_,_,h,0=>h
 | [],_,h,k+1=>h.inv▸.nil
 |_::_,_,h,k+1=>by obtain⟨_,_,e,_,b⟩:=h.inv;exact e▸b.drop k
theorem lm.take:∀{xs vs},lm I ρ xs vs->∀k,lm I ρ (xs.take k) (vs.take k)
 | [],_,h,k=>h.inv▸by rw[List.take_nil,List.take_nil];exact .nil
 |_::_,_,h,0=>.nil
 |_::_,_,h,k+1=>by obtain⟨_,_,e,a,b⟩:=h.inv;exact e▸.cons a (b.take k)
theorem vA (n B:Nat):max (0:Int) (min (n:Int) (B:Int))=((min n B:Nat):Int):=by
 rcases Nat.le_total n B with h|h
 .rw[nu h,Int.min_eq_left (Int.ofNat_le.mpr h)];exact Int.max_eq_right (je _)
 .rw[Nat.min_eq_right h,Int.min_eq_right (Int.ofNat_le.mpr h)];exact Int.max_eq_right (je _)
theorem BV {n j:Nat}:clipAt n (j:Int)=min j n:=by
 unfold clipAt;rw[if_neg qh,vA];rfl
theorem Mm {n:Nat}:clipAt (n+1) (-1)=n:=by
 have e:(-1:Int)+((n+1:Nat):Int)=(n:Int):=by rw[Int.add_comm];exact Int.add_neg_cancel_right n 1
 unfold clipAt;rw[if_pos (by decide),e,vA,nu (Nat.le_succ n)];rfl
noncomputable def fA {α:Type}(xs:List α)(lo hi:Option Int):List α:=
 (xs.drop (lo.elim 0 (clipAt xs.length))).take (hi.elim xs.length (clipAt xs.length) - lo.elim 0 (clipAt xs.length))
theorem R8 {α:Type}{xs:List α}{lo hi:Option Int}:(fA xs lo hi).length<=xs.length:=by
 unfold fA;rw[(List.length_take),(List.length_drop)];exact av (Nat.min_le_right _ _) (Nat.sub_le _ _)
theorem BF {lo}{Q:Value->ae->Prop}(k:OK pg w V ew st I ρ s)(D:IsL s.heap a (aM items) n)(r:lm I ρ xs items)(B:xs.length<=aH)(G:vl=partValue l)(J:l.map (·.1)=lo)
  (em:vu=partValue m) (H:m.map (·.1)=hi) (q:ZB pg w V ew st (.lst (fA xs lo hi)) I ρ s Q):∃its lo hi,dZ a = .ref a/\s.heap.IsList a its/\its.size<=aH/\IsPart vl lo/\IsPart vu hi /\
   Q (.ref (s.heap.objs.size+1)) {s with heap:=(s.heap.push {cls:=.type "slice",data:=.fields #[vl,vu,.none]}).push {cls:=.type "list",data:=.seq (slicePick its lo hi none)}}:=by
 refine⟨_,lo,hi,rfl,D.isList,by rw[dJ,<-r.length];exact B,Jy G J,Jy em H,?_⟩;have C:=k.grow (.push s.heap {cls:=.type "slice",data:=.fields #[vl,vu,.none]});rw[<-Heap.size_push s.heap {cls:=.type "slice",data:=.fields #[vl,vu,.none]}];refine ZB.put C rfl (q.at (.refl _) (.refl _) rfl) (.lst (n:=0) (items:=fA items lo hi) (Im.XV.trans (by rw[slicePick_plain];rfl)) ?_);unfold fA;rw[r.length];exact((r.mono C.inv.Fa (.refl _)).drop _).take _
theorem EJ.rk {lo}(h1:EJ pg w V A ew value st al (.lst xs))(d:PJ pg w V A ew lower al bi lo)(X:PJ pg w V A ew upper bi lv hi)(G:xs.length<=aH)
  (y:∀o r,letTemporaryGo value o r=aq ():=by intro _ _;rfl):
  EJ pg w V A ew (.Subscript value (.Slice lower upper none p) pos) st lv (.lst (fA xs lo hi)):=λ I ρ s Q E k q=>by
 refine wpAny_Subscript_list_slice (h1 _ _ _ _ _ k λ I1 ρ1 s1 u U T Z d1 z=>d _ _ _ _ _ Z λ I2 M s2 vl C H j c R=>X _ _ _ _ _ j λ I3 O s3 vu B J L Y hh=>?_) y;apply bd;intro nk;obtain⟨l,el,g⟩:=R;obtain⟨m,f,N⟩:=hh;obtain⟨a,D,n,rfl,e,r⟩:=z.inv;apply nk;exact⟨a,BF L (L.inv.lw _ _ (B _ _ (C _ _ e))) (r.mono (C.trans B) (H.trans J)) G el g f N (q.at ((U.trans C).trans B) ((T.trans H).trans J) (Y.trans (c.trans d1)))⟩
set_option tactic.hygienic true in
theorem EJ.EP {lo}(h1:EJ pg w V A ew value st al (.str x))(z:PJ pg w V A ew lower al bi lo)(h3:PJ pg w V A ew upper bi lv hi)(hsz:x.length<=aH)
  (Y:y=(⟨((xT lo hi 1 x.length).filterMap (x.cps[·]?)).toArray⟩:Str)) (T:(xT lo hi 1 x.length).length=x.length->y=x) (eM:y.length<=aH)
  (ht:∀o r,letTemporaryGo value o r=aq ():=by intro _ _;rfl):
  EJ pg w V A ew (.Subscript value (.Slice lower upper none p) pos) st lv (.str y):=λ I ρ s Q E k q=>by
 refine wpAny_Subscript_str_slice (h1 _ _ _ _ _ k λ I1 ρ1 s1 u c U g d1 hu=>z _ _ _ _ _ g λ I2 M s2 J Z O k2 j yx=>h3 _ _ _ _ _ k2 λ I3 D C G R d k3 f hh=>?_) ht;obtain⟨l,el,ml⟩:=yx;obtain⟨m,X,N⟩:=hh;obtain⟨t,rfl⟩:=hu.inv;refine⟨x,t,l,m,rfl,el,X,?_⟩;have L:=q.at ((c.trans Z).trans R) ((U.trans O).trans d) (f.trans (j.trans d1));have H:OK pg w V ew lv I3 D {C with heap:=C.heap.push {cls:=.type "slice",data:=.fields #[J,G,.none]}}:=k3.grow (.push _ _);have q4:=L.at (s':={C with heap:=C.heap.push {cls:=.type "slice",data:=.fields #[J,G,.none]}}) (.refl _) (.refl _) rfl;unfold sliceMade slicePicked;simp only[ml,N,Option.map_none,Option.getD_none,beq_self_eq_true,Bool.true_and]
 split
 .rename_i hc
  have:=T (by simpa using hc);subst this;exact q4.here H (.str _ _)
 .rw[<-Y];exact⟨eM,q4.toks H (.str _ _)⟩
def ds (pg:aK)(w:aA)(V:Im)(A:aD)(ew:aB)(f:Value)(args:List PV)(st bv:PS)(r:PV):Prop:=
 ∀I ρ s Q E vs,OK pg w V ew st I ρ s->lm I ρ args vs->ZB pg w V ew bv r I ρ s Q->ag (af pg w) A (call f vs) Q E s
theorem EJ.bY {id}(N:EJ pg w V A ew func st al (.blt id))(B:am pg w V A ew args al bi vs)(L:ds pg w V A ew (.builtin id) vs bi lv r)
  (J:eval (.Call func args [] pos) ew=(do du pos (<-eval func ew) [] (backTo pos (starEach args ew)) []):=by rfl):
  EJ pg w V A ew (.Call func args [] pos) st lv r:=λ I c s Q E h q=>by
 rw[J];refine aa (N _ _ _ _ _ h λ Z T d v R M cX D U=>?_);obtain(⟨_,rfl⟩):=U.inv;refine callWith_builtin (jV (js B).1) (fV B cX λ Y C a b O H PP G KM=>?_);exact L _ _ _ _ _ _ PP KM (q.at (R.trans O) (M.trans H) (G.trans D))
theorem EJ.fk {id}(N:EJ pg w V A ew func st al (.typ id))(B:am pg w V A ew args al bi vs)(L:ds pg w V A ew (.type id) vs bi lv r)
  (J:eval (.Call func args [] pos) ew=(do du pos (<-eval func ew) [] (backTo pos (starEach args ew)) []):=by rfl):
  EJ pg w V A ew (.Call func args [] pos) st lv r:=λ I c s Q E h q=>by
 rw[J];refine aa (N _ _ _ _ _ h λ Z T d v R M cX D U=>?_);obtain(⟨_,rfl⟩):=U.inv;refine PySem.callWith_type (jV (js B).1) (fV B cX λ Y C a b O H PP G KM=>?_);exact L _ _ _ _ _ _ PP KM (q.at (R.trans O) (M.trans H) (G.trans D))
theorem cz (h:lm I ρ [x] vs):∃v,vs=[v]/\ce I ρ x v:=by
 obtain⟨_,_,rfl,a,b⟩:=h.inv;obtain rfl:=b.inv;exact⟨_,rfl,a⟩
theorem gq (h:lm I ρ [x,y] vs):∃v u,vs=[v,u]/\ce I ρ x v/\ce I ρ y u:=by
 obtain⟨_,_,rfl,a,b⟩:=h.inv;obtain⟨_,rfl,c⟩:=cz b;exact⟨_,_,rfl,a,c⟩
theorem BZ {n:Nat}(h:n<2 ^ 62):(n:Int)<2 ^ 63:=Int.lt_trans (Int.ofNat_lt.mpr h) (by decide)
theorem wo (r:lm I ρ xs items)(h:xs.length<2 ^ 62):(items.toArray.size:Int)<2 ^ 63:=BZ (show items.length<_ from r.length▸h)
theorem ds.sJ (B:xs.length<2 ^ 62):ds pg w V A ew (.builtin "len") [.lst xs] st st (.int xs.length):=λ I D s Q E G k jp q=>by
 obtain⟨v,rfl,C⟩:=cz jp;obtain⟨_,_,_,rfl,e,r⟩:=C.inv;refine call_len_list (IsL.isList (k.inv.lw _ _ e)) (wo r B) ?_;rw[dJ,<-r.length];exact q.toks k (.int _ _)
theorem ds.XH (G:st.ph[n]? = some (.list xs))(C:xs.length<2 ^ 62):ds pg w V A ew (.builtin "len") [.ref n] st st (.int xs.length):=λ I L s Q E M k jp q=>by
 obtain⟨v,rfl,H⟩:=cz jp;obtain⟨_,_,rfl,e⟩:=H.inv;obtain⟨B,J,D,r⟩:=k.inv.list G e;refine call_len_list (IsL.isList D) (wo r C) ?_;rw[dJ,<-r.length];exact q.toks k (.int _ _)
theorem ds.zC (B:xs.length<2 ^ 62):ds pg w V A ew (.builtin "len") [.tup xs] st st (.int xs.length):=λ I D s Q E G k jp q=>by
 obtain⟨v,rfl,C⟩:=cz jp;obtain⟨_,_,_,rfl,e,r⟩:=C.inv;refine P.len_tuple (k.inv.lw _ _ e) (Int.not_le.mpr (wo r B)) ?_;rw[dJ,<-r.length];exact q.toks k (.int _ _)
theorem ds.len_str {x:Str}(B:x.length<2 ^ 62):ds pg w V A ew (.builtin "len") [.str x] st st (.int x.length):=λ I D s Q E G k jp q=>by
 obtain⟨v,rfl,C⟩:=cz jp;obtain⟨_,rfl⟩:=C.inv;exact P.len_str (Int.not_le.mpr (BZ B)) (q.toks k (.int _ _))
theorem ds.ord {c:Nat}:ds pg w V A ew (.builtin "ord") [.str ⟨#[c]⟩] st st (.int c):=λ I C s Q E D k jp q=>by
 obtain⟨v,rfl,B⟩:=cz jp;obtain⟨_,rfl⟩:=B.inv;exact P.ord_of_char (q.toks k (.int _ _))
theorem ds.chr {i:Int}(h0:0<=i)(C:i<=0x10FFFF):ds pg w V A ew (.builtin "chr") [.int i] st st (.str ⟨#[i.toNat]⟩):=λ I D s Q E G k jp q=>by
 obtain⟨v,rfl,B⟩:=cz jp;obtain⟨_,rfl⟩:=B.inv;exact P.chr_of_int (by simp;lia) (q.toks k (.str _ _))
theorem ds.ko {n:Int}:ds pg w V A ew (.type "range") [.int n] st st (.eh 0 n):=λ I D s Q E H k jp q=>by
 obtain⟨v,rfl,G⟩:=cz jp;obtain⟨_,rfl⟩:=G.inv;refine call_range_1 ?_;have C:OK pg w V ew st I D {s with toks:=s.toks+1+1}:=k.toks;exact ZB.put (s:={s with toks:=s.toks+1+1}) C rfl (q.at (.refl _) (.refl _) rfl) (.eh (Im.XV ..))
noncomputable def jc (a:Int):Nat->List PV
 |0=>[]
 |n+1=>.int a::jc (a+1) n
theorem L5 (H:Im->wl->Heap->Prop):∀(n:Nat) (a:Int),oW pg w H (jc a n) {cls:=.type "range_iterator",data:=.fields #[bx a,bx n,bx 1]}:=by
 intro n
 induction n with
 |zero=>
  intro a I O A s Q E M D N C q;exact wpAny_pyNext_range_end D C (by simp) λ B R=>q B s.toks R
 |succ n G=>
  intro a I O A s Q E M N C q;refine wpAny_pyNext_range_item C (by lia) λ B J L=>?_
  refine q _ _ B _ (.int _ _) J (fN rfl rfl (by decide)) L.extBut ?_;have:=G (a+1);rw[show(((n+1:Nat):Int) - 1)=(n:Int) by lia];exact this
theorem NU {a b c:Int}:oP pg w {cls:=.type "range_iterator",data:=.fields #[bx a,bx b,bx c]}:=λ A s Q E B h q=>wpAny_pyIter_rangeiter h q
theorem rc.eh {a b:Int}(C:-(2 ^ 62)<=a)(H:b<2 ^ 62)(D:a<=b):rc pg w V A ew (.eh a b) st (jc a (b - a).toNat) (λ _=>True):=λ I J s Q E u k B q=>by
 obtain⟨_,_,_,_,rfl,e⟩:x42:=B.inv;refine wpAny_pyIter_range (k.inv.lw _ _ e) (small_one C (by lia) (by lia) H) ?_;have G:Builtin.Range.rangeSize a b 1=((b - a).toNat:Int):=by rw[rangeSize_one];split<;>lia
 rw[G];exact q (λ _ _ _=>True) _ s.toks (λ _ _ _ _ _ _ _ _=>trivial) (L5 _ _ _) (fN rfl rfl (by decide)) rfl NU
theorem CJ.eq_str {x y:Str}:CJ pg w V A ew .Eq (.str x) (.str y) st (x==y):=λ I D s Q E u v h B C q=>by
 obtain⟨_,rfl⟩:=B.inv;obtain⟨_,rfl⟩:=C.inv;refine P.eq_str ?_;have:(x.cps.toList==y.cps.toList)=(x==y):=by
  rw[(iE)];simp only[beq_iff_eq]
  constructor
  .intro h;cases x;cases y;simp only[Str.mk.injEq];exact Array.toList_inj.mp h
  .rintro rfl;rfl
 rw[this];exact q.here h (.bool _)
def Gy (ew:aB)(st:PS)(X:Addr->Prop)(h h':Heap):Prop:=
 ∀a o,h.get? a=some o->¬X a->∃o',h'.get? a=some o'/\o'.data=o.data/\(a≠ew.locals->a∉st.fs.map (·.1)->o'=o)
theorem OK.beside (k:OK pg w V ew st I ρ s)(b:Gy ew st X s.heap h')(L:∀a,X a->Sc ew st I ρ a):OK pg w V ew st I ρ {s with heap:=h',toks:=tk}:=by
 have Eu:∀a,a∈st.fs.map (·.1)->I a=none/\a∉ρ.flatten/\¬jA ew a:=λ a B=>by
  apply bd;intro C;obtain⟨p,M,rfl⟩:=aI.mp B;apply C;exact(k.No p M).2
 have same:∀a o,s.heap.get? a=some o->¬X a->a≠ew.locals->a∉st.fs.map (·.1)->h'.get? a=some o:=λ a o e g Y f=>by
  apply bd;intro C;obtain⟨G,D,_,q⟩:x13:=b a o e g;apply C;rw[D,q Y f]
 have lw:∀a o,I a=some o->h'.get? a=some o:=λ a o e=>by
  refine same a o (k.inv.lw a o e) (λ q=>?_) (λ q=>?_) λ q=>?_
  .exact bu ((L a q).im.symm.trans e)
  .exact bu (k.fr.bt.1.symm.trans (q▸e))
  .exact bu ((Eu a q).1.symm.trans e)
 have O:∀a o,a∈ρ.flatten->s.heap.get? a=some o->h'.get? a=some o:=λ a o B e=>
  same a o e (λ q=>(L a q).gB B) (λ q=>k.fr.bt.2 (q▸B)) λ q=>(Eu a q).2.1 B
 refine⟨⟨lw,k.inv.len,λ n o Z e1 e2=>(k.inv.obj n o Z e1 e2).mono _ _ (.refl _) (.refl _) λ a B R e=>O a R (k.inv.mem e2 B) e,k.inv.wv,λ a B=>by obtain⟨p,o,q⟩:x0211:=k.inv.out a B;exact ⟨p,o,O a o B q⟩⟩,
  ⟨?_,λ x c e=>?_,k.fr.bt,k.fr.cout,k.fr.apart⟩,k.gens,k.top,λ p M=>?_⟩
 .apply bd;intro C;obtain⟨m,⟨o,T,E,H,U,Q⟩,d⟩:=k.fr.ns;obtain⟨G,D,J,_⟩:x13:=b _ o H λ q=>(L _ q).fr (.inl rfl)
  apply C;exact⟨m,⟨G,T,E,D,J▸U,Q⟩,d⟩
 .apply bd;intro C;obtain⟨u,⟨o,H,N⟩,r⟩:=k.fr.cell x c e;obtain⟨G,D,J,_⟩:x13:=b _ o H λ q=>(L _ q).fr (.inr ⟨x,e⟩)
  apply C;exact⟨u,⟨G,D,J▸N⟩,r⟩
 .apply bd;intro C;obtain⟨⟨o,H,N⟩,r⟩:x02:=k.No p M;obtain⟨G,D,J,_⟩:x13:=b _ o H λ q=>(L _ q).fs (nr M)
  apply C;exact⟨⟨G,D,J.trans N⟩,r⟩
def Tb (ew:aB)(st:PS)(I:Im)(ρ:wl)(h:Heap)(e:Addr)(vs:Array Value):Prop:=
 ∃tb jQ ts x,vs[1]? = some (.ref tb)/\tb≠e/\h.get? tb=some jQ/\jQ.data = .fields ts/\ts[3]? = some x/\Sc ew st I ρ tb
noncomputable def Ve (I:Im)(cls:Value)(v:Option Value):Prop:=v=some .none\/(∀n,cls≠.type n)/\∃y p us,v=some (.ref y)/\I y=some p/\p.data = .fields us/\us[2]? = some .none
noncomputable def iV (I:Im)(h:Heap)(cls:Value)(e:Addr):Prop:=∃oe vs,h.get? e=some oe/\oe.data = .fields vs/\Ve I cls vs[2]?
theorem iV.at {h h':Heap}(x:iV I h cls e)(k:∀o,h.get? e=some o->h'.get? e=some o):iV I h' cls e:=by obtain⟨B,C,a,b⟩:=x;exact ⟨B,C,k _ a,b⟩
structure kY (ew:aB)(st:PS)(I:Im)(ρ:wl)(h:Heap)(cls:Value)(e:Addr):Prop where
 out:Sc ew st I ρ e
 ctx:iV I h cls e
 obj:∃oe vs,h.get? e=some oe/\oe.cls=cls/\oe.data = .fields vs/\(vs[1]? = some .none\/Tb ew st I ρ h e vs)
structure iU (ew:aB)(st:PS)(I:Im)(ρ:wl)(h:Heap)(cls:Value)(e:Addr):Prop where
 out:Sc ew st I ρ e
 ctx:iV I h cls e
 obj:∃oe vs,h.get? e=some oe/\oe.cls=cls/\oe.data = .fields vs/\Tb ew st I ρ h e vs
theorem iU.exc (X:iU ew st I ρ h cls e):kY ew st I ρ h cls e:=by
 obtain⟨B,C,J,H,G,D⟩:x24:=X.obj;exact⟨X.out,X.ctx,B,C,J,H,G,.inr D⟩
theorem Ih (k:OK pg w V ew st I ρ s)(J:ew.frame=some ew.locals)(G:ew.scope.kind≠.module)
  (C:∀e∈B,e.scope.kind≠.module/\∃L d,e.frame=some L/\(L,d)∈st.fs/\∀vs,d≠.fields vs):s.heap.FunFrames {} (ew::B):=by
 obtain⟨m,⟨o,Q,Z,T,N,Y⟩,E⟩:=k.fr.ns;refine⟨G,⟨_,o,J,rfl,T,λ vs e=>nomatch N.symm.trans e⟩,?_⟩
 induction B with
 |nil=>trivial
 |cons x U D=>
  obtain⟨a,L,d,b,c,M⟩:x0223:=C x (aN ..);obtain⟨⟨H,e,R⟩,_⟩:x02:=k.No _ c;exact⟨a,⟨L,H,b,rfl,e,λ vs=>R▸M vs⟩,D λ y O=>C y (aT _ O)⟩
theorem note {Q:Unit->ae->Prop}(C:Ctx A ew st.fs)(k:OK pg w V ew st I ρ s)(X:kY ew st I ρ s.heap cls e)
  (q:∀s',OK pg w V ew st I ρ s'->s'.os=s.os->iU ew st I ρ s'.heap cls e->Q () s'):ag (af pg w) A (noteFrame (.ref e) ew) Q E s:=by
 obtain⟨N,R,O,g,M,hh⟩:x24:=X.obj;obtain⟨T,hfr,J⟩:=C.stack;have U:∀(H:Value) (s:ae) (N:Obj) (R:Array Value) (b:Bool),OK pg w V ew st I ρ s->s.heap.get? e=some N->N.cls=cls->N.data = .fields R->1<R.size->iV I s.heap cls e->(∀s',OK pg w V ew st I ρ s'->s'.os=s.os->iU ew st I ρ s'.heap cls e->Q () s') ->
   ag (af pg w) A (do setField (.ref e) 1 (<-EntryCells.newEntry H (<-frameOf ew) .none (bx ew.locals) .none (<-entryPlaceOf ew.locals b))) Q E s:=by
  intro H s N R b k O g M j SH q;refine aa (wpAny_frameOf_fun hfr (Ih k C.frame C.kind J) C.frame λ B AF=>?_);refine aa (wpAny_entryPlaceOf λ pl mq=>?_)
  k_delta "newEntry";k_delta "newFields"
  refine aa (gN ?_ (mq.sizeOk5 _ _ _ _ _));have Mn:e∉(ew::T).filterMap (·.frame):=λ u=>by
   obtain⟨_,o,D,hnf⟩:x0212:=(Ih k C.frame C.kind J).mem u;exact hnf R (Option.some.inj (O.symm.trans D)▸M)
  have IV:B.get? e=some N:=(AF.2.1 e Mn).trans O;have frm:∀a,a∈(ew::T).filterMap (·.frame)->a=ew.locals\/a∈st.fs.map (·.1):=λ a m=>by
   obtain⟨x,hx,El⟩:=List.mem_filterMap.mp m
   rcases aG.mp hx with rfl|hx
   .exact .inl (Option.some.inj (El.symm.trans C.frame))
   .obtain⟨_,L,d,b,c,_⟩:x0223:=J x hx;exact .inr (Option.some.inj (b.symm.trans El)▸nr (f:=(·.1)) c)
  have b1:Gy ew st (λ _=>False) s.heap B:=λ a o D _=>by
   obtain⟨sl,e1⟩:=AF.2.2 a o D;refine⟨_,e1,rfl,λ n1 n2=>?_⟩;have:=AF.2.1 a λ u=>by exact(frm a u).elim n1 n2
   rw[this,D] at e1;exact(Option.some.inj e1).symm
  have r:OK pg w V ew st I ρ {s with heap:=B,toks:=s.toks}:=k.beside b1 λ _ q=>q.elim
  have hT:B.objs.size≠e:=eF (bP IV);generalize KB:({cls:=.type "traceback",dict:=none,data:=.fields ([H,.ref ew.locals,.none,bx ew.locals,.none]++(if pl.isEmpty then dy 6 Value.none else pl)).toArray}:Obj)=ob;have Tw:ob.isFreed=false:=by rw[<-KB];rfl
  have Iw:=bH (h:=B) ob IV;have k2:OK pg w V ew st I ρ {s with heap:=B.push ob}:=r.grow (.push _ _);refine lH Iw M j ?_;have BG:=Obj.data_mapFields M (·.setIfInBounds 1 (dZ B.objs.size));have HP:=eG (gc (·.setIfInBounds 1 (dZ B.objs.size))) Iw (Obj.isFreed_of_fields BG);have Y0:=(gS (B.push ob) (gc (·.setIfInBounds 1 (dZ B.objs.size))) (Ne.symm hT)).trans (cj B Tw);have k3:OK pg w V ew st I ρ {s with heap:=(B.push ob).update e (gc (·.setIfInBounds 1 (dZ B.objs.size))),toks:=s.toks}:=
   k2.beside (X:=λ a=>a=e) (λ a o D y=>⟨o,(gS _ _ (Ne.symm y)).trans D,rfl,λ _ _=>rfl⟩) (λ a m=>m▸X.out)
  have ME:(Array.setIfInBounds R 1 (dZ B.objs.size))[1]? = some (.ref B.objs.size):=by simp[j]
  refine q _ k3 rfl ⟨X.out,?_,_,_,HP,(Obj.cls_mapFields _ _).trans g,BG,B.objs.size,ob,_,bx ew.locals,ME,hT,Y0,by rw[<-KB],by simp,dE r (aJ _)⟩;apply bd;intro nk;obtain⟨oe',eL,z1,z2,z3⟩:=SH;apply nk;obtain rfl:=Option.some.inj (O.symm.trans z1);obtain rfl:=Data.fields.inj (M.symm.trans z2);exact⟨_,_,HP,BG,by rw[Array.getElem?_setIfInBounds_ne (by decide)];exact z3⟩
 k_delta "noteFrame"
 simp only[C.frame]
 rcases hh with Z|⟨p,jQ,ts,x,Z,Y,gn,gm,h3,D⟩
 .refine aa (bf O M Z ?_);refine da (decide_eq_false (by decide)) ?_;exact U _ s N R _ k O g M (lI.mp Z).1 X.ctx q
 .refine aa (bf O M Z ?_);refine iF (decide_eq_true (show(dZ p != Value.none)=true from by simp)) ?_;refine aa (bf gn gm h3 ?_)
  split
  .exact ah (q _ k rfl ⟨X.out,X.ctx,N,R,O,g,M,p,jQ,ts,x,Z,Y,gn,gm,h3,D⟩)
  .refine aa (lH gn gm (lI.mp h3).1 ?_);have r:OK pg w V ew st I ρ {s with heap:=s.heap.update p (gc (·.setIfInBounds 3 Value.none)),toks:=s.toks}:=
    k.beside (X:=λ a=>a=p) (λ a o D y=>⟨o,(gS _ _ (Ne.symm y)).trans D,rfl,λ _ _=>rfl⟩) (λ a m=>m▸D)
   exact U _ _ N R _ r ((gS _ _ Y).trans O) g M (lI.mp Z).1 (X.ctx.at λ _ z=>(gS _ _ Y).trans z) q
theorem qq {Q:Unit->ae->Prop}(k:OK pg w V ew st I ρ s)(X:iU ew st I ρ s.heap cls e)
  (q:∀s',OK pg w V ew st I ρ s'->s'.os=s.os->iU ew st I ρ s'.heap cls e->Q () s'):ag (af pg w) A (setFlight (.ref e) f) Q E s:=by
 apply bd;intro Z;obtain⟨O,c,N,R,M,G,jQ,g,x,L,B,gn,gm,U,H⟩:=X.obj;apply Z
 k_delta "setFlight"
 refine aa (bf N M L ?_);refine iF (decide_eq_true (show(dZ G != Value.none)=true from by simp)) ?_;have D:=(lI.mp U).1;refine lH gn gm D ?_;have d:OK pg w V ew st I ρ {s with heap:=s.heap.update G (gc (·.setIfInBounds 3 (f.elim Value.none λ f=>bx f))),toks:=s.toks}:=
  k.beside (X:=λ a=>a=G) (λ a o H T=>⟨o,(gS _ _ (Ne.symm T)).trans H,rfl,λ _ _=>rfl⟩) (λ a Y=>Y▸H)
 have C:=Obj.data_mapFields gm (·.setIfInBounds 3 (f.elim Value.none λ f=>bx f));exact q _ d rfl ⟨X.out,X.ctx.at λ _ z=>(gS _ _ B).trans z,O,c,(gS _ _ B).trans N,R,M,G,_,_,f.elim Value.none λ f=>bx f,L,B,eG _ gn (Obj.isFreed_of_fields C),C,by simp[D],H⟩
def RJ {α:Type}(pg:aK)(w:aA)(V:Im)(A:aD)(ew:aB)(m:Sem α)(st bv:PS)(cls:Value):Prop:=
 ∀I ρ s Q E,OK pg w V ew st I ρ s->(∀I' ρ' s' e,nw I I'->pu ρ ρ'->OK pg w V ew bv I' ρ' s'->s'.os=s.os->kY ew bv I' ρ' s'.heap cls e->E (.ref e) s')->ag (af pg w) A m Q E s
def qo (pg:aK)(w:aA)(V:Im)(A:aD)(ew:aB)(test:aF)(body:List aC)(go:PS->Prop)(st bv:PS)(c:Value):Prop:=
 RJ pg w V A ew (isTrue test ew (eval test ew)) st bv c\/∃al,TJ pg w V A ew test st al true/\(RJ pg w V A ew (execs body ew) al bv c\/∃bi g,XJ pg w V A ew body al bi g/\(g = .next\/g = .cont)/\go bi)
noncomputable def WX (pg:aK)(w:aA)(V:Im)(A:aD)(ew:aB)(test:aF)(body:List aC):Nat->PS->PS->Value->Prop
 |0,st,bv,c=>qo pg w V A ew test body (λ _=>False) st bv c
 |n+1,st,bv,c=>qo pg w V A ew test body (λ bi=>WX pg w V A ew test body n bi bv c) st bv c
theorem Bm {a:Addr}(k:OK pg w V ew st I ρ s)(G:s.heap.get? a=none):Sc ew st I ρ a:=by
 have B:∀{o},¬s.heap.get? a=some o:=λ e=>bu (G.symm.trans e)
 refine⟨?_,λ D=>by obtain⟨_,_,e⟩:x0211:=k.inv.out a D;exact B e,λ q=>by obtain⟨_,_,e,_⟩:x0212:=k.fr.ma q;exact B e,λ q=>?_⟩
 .cases e:I a with
  |none=>rfl
  |some o=>exact(B (k.inv.lw _ _ e)).elim
 .obtain⟨p,C,e⟩:=aI.mp q;obtain⟨⟨_,z,_⟩,_⟩:x02:=k.No p C;exact B (e▸z)
theorem td (k:OK pg w V ew st I ρ s)(N:Heap.NewExc s.heap h' e cls):OK pg w V ew st I ρ {s with heap:=h',toks:=tk}/\kY ew st I ρ h' (.type cls) e:=by
 apply bd;intro G;obtain⟨D,t,C,H,B⟩:=N.there;apply G;exact⟨(k.grow N.keeps).toks,Bm k N.new,⟨D,_,C,B,.inl rfl⟩,D,_,C,H,B,.inl rfl⟩
set_option tactic.hygienic true in
theorem RX.Fd (c:A.handled=none)(j:EJ pg w V A ew value st al (.str x))(U:EJ pg w V A ew slice al bi (.int i))(C:fitsSsize i=true)(Y:i < -(x.length:Int)\/(x.length:Int)<=i)
  (g:∀o i,subscripted slice false o i=operate [o,i] (getItem o i):=by intro _ _;rfl):RJ pg w V A ew (eval (.Subscript value slice pos) ew) st bi (.type "IndexError"):=λ I ρ s Q E k q=>by
 rw[eval_Subscript];refine aa (j _ _ _ _ _ k λ y m z u O L R p f=>aa (aQ (U _ _ _ _ _ R λ r H B v M J G T d=>aa (a9 ?_))));obtain⟨_,rfl⟩:=f.inv;obtain⟨_,rfl⟩:=d.inv
 rename_i t u
 have iq:(decide (i < -(2 ^ 63:Int))||decide (i>=2 ^ 63))=false:=by
  unfold fitsSsize at C
  simpa using C
 have Z:ag (af pg w) A (getItem (.str x t) (.int i u)) (λ _ _=>False) E B:=
  getItem_meets (typeIs_str B x t) (by decide) F.slot_str_getitem F.entry_str_getitem (F.args_str_getitem_2 _ _) (raises_str_getitem x i t u iq (by rw[seqIndex_none Y];rfl))
   ⟨c,λ X D e N=>q _ _ _ _ (O.trans M) (L.trans J) (td G N).1 (T.trans p) (td (tk:=D) G N).2⟩
 refine aa ?_;rw[getitemInPython_of_ne (typeIs_str B x t).not_modules];refine aa (wpAny_specialOf (typeIs_str B x t) F.slot_str_getitem.lookup ?_);refine ah (aa ?_);rw[g];exact wpAny_operating (eY Z (λ _ _ h=>h.elim) λ _ _ x=>x)
theorem TX.Wl (C:RJ pg w V A ew (eval l ew) st al c)(B:behindInMarks op r=false:=by with_unfolding_all rfl):RJ pg w V A ew (isTrue (.Compare l [op] [r] pos) ew (eval (.Compare l [op] [r] pos) ew)) st al c:=
 λ I D s Q E k q=>wpAny_isTrue_Compare1 (C _ _ _ _ _ k q) B
theorem SX.assign (C:RJ pg w V A ew (eval e ew) st al c)(B:swapsWith e (some (.Name x p)) pos.line ew=aq false:=by rfl):RJ pg w V A ew (exec (.Assign [.Name x p] e pos) ew) st al c:=
 λ I D s Q E k q=>wpAny_Assign_Name (C _ _ _ _ _ k q) B
theorem SX.ret (B:RJ pg w V A ew (eval e ew) st al c):RJ pg w V A ew (exec (.Return (some e) pos) ew) st al c:=
 λ I C s Q E k q=>wpAny_Return_some (B _ _ _ _ _ k q)
theorem XX.head (B:RJ pg w V A ew (exec b ew) st al c):RJ pg w V A ew (execs (b::rest) ew) st al c:=
 λ I C s Q E k q=>wpAny_execs_cons (B _ _ _ _ _ k q)
theorem XX.cons (G:SJ pg w V A ew b st al .next)(M:RJ pg w V A ew (execs rest ew) al bi c):RJ pg w V A ew (execs (b::rest) ew) st bi c:=
 λ I T s Q E k q=>wpAny_execs_cons (G _ _ _ _ _ k λ O J U g a b c d e=>by obtain rfl:=e.inv;exact M _ _ _ _ _ c λ N B R x H C D L=>q _ _ _ _ (a.trans H) (b.trans C) D (L.trans d))
theorem SX.iff (O:TJ pg w V A ew test st al b)(M:RJ pg w V A ew (execs (if b then body else orelse) ew) al bi c):RJ pg w V A ew (exec (.If test body orelse pos) ew) st bi c:=λ I Y s Q E h q=>
 wpAny_If (O _ _ _ _ _ h λ U T Z dG zn L J=>by
  cases b
  .exact M _ _ _ _ _ L λ N B R x G C D H=>q _ _ _ _ (dG.trans G) (zn.trans C) D (H.trans J)
  .exact M _ _ _ _ _ L λ N B R x G C D H=>q _ _ _ _ (dG.trans G) (zn.trans C) D (H.trans J))
theorem BQ {D:aD}(C:Ctx D ew st.fs)(k:OK pg w V ew st I ρ s)(X:kY ew st I ρ s.heap cls e)
  (q:∀s',OK pg w V ew st I ρ s'->s'.os=s.os->iU ew st I ρ s'.heap cls e->E (.ref e) s'):notedBy (af pg w) D ew (cameBackBy (af pg w) A ew E) (.ref e) s:=by
 refine note C k X λ f T H B=>?_
 apply bd;intro O;obtain⟨Y,d,L,Z,R,Q,jQ,c,x,M,r⟩:=B.obj;apply O;refine aa (bf L R M ?_);refine da (decide_eq_false (by simp)) ?_;exact qq T B λ N U J G=>q N U (J.trans H) G
theorem WX.next {B body}(G:TJ pg w V A ew B st al true)(C:XJ pg w V A ew body al bi g)(D:g = .next\/g = .cont)(h:WX pg w V A ew B body n bi lv c):WX pg w V A ew B body (n+1) st lv c:=
 .inr ⟨_,G,.inr ⟨_,_,C,D,h⟩⟩
theorem WX.test {B body}(n)(C:RJ pg w V A ew (isTrue B ew (eval B ew)) st al c):WX pg w V A ew B body n st al c:=by cases n<;>exact .inl C
theorem WX.body {B body}(n)(D:TJ pg w V A ew B st al true)(C:RJ pg w V A ew (execs body ew) al bi c):WX pg w V A ew B body n st bi c:=by cases n<;>exact .inr ⟨_,D,.inl C⟩
theorem qo.go {go}{Q:Flow->ae->Prop}(C:Ctx A ew al.fs)(h:qo pg w V A ew test body go st al c)(k:OK pg w V ew st I ρ s)
  (q:∀Z D s' e,nw I Z->pu ρ D->OK pg w V ew al Z D s'->s'.os=s.os->kY ew al Z D s'.heap c e->E (.ref e) s')
  (O:∀bi M B G,go bi->nw I M->pu ρ B->OK pg w V ew bi M B G->G.os=s.os->∃m,m<n/\J m G):vF pg w A ew test body orelse Q (notedBy (af pg w) A ew (cameBackBy (af pg w) A ew E)) J n s:=by
 rcases h with f|⟨s1,f,H⟩
 .exact f _ _ _ _ _ k λ M B G e a b N d x=>BQ C N x λ j L o3 X3=>q _ _ _ _ a b L (o3.trans d) X3.exc
 .refine f _ _ _ _ _ k λ M B G a b N d=>?_
  rcases H with H|⟨G,g,H,X,u⟩
  .exact H _ _ _ _ _ N λ I3 R j e T U L Y x=>BQ C L x λ s4 p o r=>q _ _ _ _ (a.trans T) (b.trans U) p (o.trans (Y.trans d)) r.exc
  .refine H _ _ _ _ _ N λ I3 R j g T U L Y y=>?_
   have z:=O _ _ _ _ u (a.trans T) (b.trans U) L (Y.trans d)
   rcases X with rfl|rfl<;>(obtain rfl:=y.inv;exact z)
theorem SX.while (C:Ctx A ew al.fs)(h:WX pg w V A ew test body n st al c):RJ pg w V A ew (exec (.While test body orelse pos) ew) st al c:=λ I Y s Q E k q=>
 wpAny_While (codeAny_whileLoop (λ n G=>∃bv H B,WX pg w V A ew test body n bv al c/\OK pg w V ew bv H B G/\nw I H/\pu Y B/\G.os=s.os) (λ n G h=>by
  show vF pg w A ew test body orelse Q _ _ n G;apply bd;intro U;obtain⟨_,H,B,h,R,M,T,O⟩:=h;apply U;have N:∀L D J e,nw H L->pu B D->OK pg w V ew al L D J->J.os=G.os->kY ew al L D J.heap c e->E (.ref e) J:=λ _ _ _ _ a b k d=>q _ _ _ _ (M.trans a) (T.trans b) k (d.trans O)
  cases n with
  |zero=>exact qo.go C h R N λ _ _ _ _ h=>h.elim
  |succ m=>exact qo.go C h R N λ _ _ _ _ h a b c d=>⟨m,Nat.lt_succ_self m,_,_,_,h,c,M.trans a,T.trans b,d.trans O⟩) n ⟨_,_,_,h,k,.refl _,.refl _,rfl⟩)
def fZ (pg:aK)(w:aA)(V:Im)(ew:aB)(t:aF)(v:Value):Prop:=
 ∀A st I ρ s Q E,OK pg w V ew st I ρ s->Q v s->ag (af pg w) A (eval t ew) Q E s
theorem fZ.blt {mg mb}(T:cu V mg mb)(K:ut ew)(B:ew.kindOf x=some .globalImplicit)(C:mg x=none)(D:mb x=some v)(G:(x==("__debug__" : Str))=false:=by decide):
  fZ pg w V ew (.Name x pos) v:=λ A st I H s Q E h q=>
 rv K.kind B (loadGlobal_builtin (K.glob▸(h.tg T).1) C (K.blt▸(h.tg T).2.1) D q) G
theorem fZ.glob {mg mb}(T:cu V mg mb)(K:ut ew)(B:ew.kindOf x=some .globalImplicit)(C:mg x=some v)(D:(x==("__debug__" : Str))=false:=by decide):
  fZ pg w V ew (.Name x pos) v:=λ A st I G s Q E h q=>
 rv K.kind B (loadGlobal_global (K.glob▸(h.tg T).1) C q) D
def eV (pg:aK)(w:aA)(V:Im)(cls T:Value)(b:Bool):Prop:=
 ∀(A:aD) (s:ae) (e:Addr) (oe:Obj) Q E,(∀a o,V a=some o->s.heap.get? a=some o)->s.heap.get? e=some oe->oe.cls=cls->Q b s->ag (af pg w) A (excMatches (.ref e) T) Q E s
theorem eV.builtin {X T:String}(B:isSubtype (.type T) (.type "BaseException")=aq true)(D:isSubtype (.type ((Manifest.find? T).elim "type" λ x=>x.metatype)) (.type "tuple")=aq false)
  (C:isSubtype (.type X) (.type T)=aq b):eV pg w V (.type X) (.type T) b:=λ A s e G Q E _ J H q=>
 wpAny_excMatches_type ⟨G,J,H⟩ B D C q
theorem Bn {i4}(D:fZ pg w V ew t T)(N:eV pg w V cls T true)(k:OK pg w V ew st I ρ s)(X:iU ew st I ρ s.heap cls e)
  (J:∀B,OK pg w V ew st I ρ B->B.os=s.os->iU ew st I ρ B.heap cls e->ag (af pg w) (A.mark (some (.ref e))) (execs (C::i4) ew) Q (notedBy (af pg w) (A.mark (some (.ref e))) ew (cameBackBy (af pg w) A ew E)) B):
  ag (af pg w) A (handleBy (.ref e) ew (.ExceptHandler (some t) none (C::i4) pos::rest)) Q E s:=by
 refine wpAny_handleBy_cons (codeAny_handlers_test (D _ _ _ _ _ _ _ k ?_)) (by intro q;cases q);apply bd;intro O;obtain⟨G,Y,R,M,r⟩:=X.obj;apply O;refine N _ _ e G _ _ (λ a o z=>k.inv.lw _ _ (k.top _ _ z)) R M ?_;exact codeAny_handlers_suite (qq k X λ B U L H=>J B U L H)
theorem SJ.qj {i4 tv}(C:Ctx A ew al.fs)(Y:RJ pg w V A ew (execs body ew) st al cls)(D:fZ pg w V ew t T)(Z:eV pg w V cls T true)
  (M:∀e,XJ pg w V (A.mark (some (.ref e))) ew (B::i4) al bi f):
  SJ pg w V A ew (.Try body (.ExceptHandler (some t) none (B::i4) tv::rest) [] [] pos) st bi f:=λ I m s Q E k q=>
 wpAny_Try_except (Y _ _ _ _ _ k λ j b o e a U c H d=>note C c d λ l g N G=>qq g G λ n R o3 O=>
  Bn D Z R O λ h L J i=>M e _ _ _ _ _ L (q.at a U (J.trans (o3.trans (N.trans H)))))
theorem SJ.mL (D:XJ pg w V A ew body st al f):SJ pg w V A ew (.Try body (h₀::hs) [] [] pos) st al f:=λ I M s Q E k q=>
 wpAny_Try_except (D _ _ _ _ _ k λ L H N g G C J B e=>by
  have z:=q _ _ _ _ G C J B e
  cases e with
  |next=>exact wpAny_execs_nil z
  |_=>exact z)
namespace FF
theorem Ge:PlainAttrs "frozenset":=
 ⟨⟨"object.__getattribute__",by rw[ny,nz];kernel_rfl,by decide +kernel⟩,by rw[ny,nz];kernel_rfl⟩
theorem Bp:Slot "frozenset" "isdisjoint" "frozenset.isdisjoint":=
 .of (owner:="frozenset") (n:="isdisjoint") (by rw[ny,nz];kernel_rfl) (by decide +kernel) (by decide +kernel) (by decide +kernel)
  (by first|exact .inl (by decide +kernel)|exact .inr (by decide +kernel)) (by rw[fD];kernel_rfl)
theorem Ol:typeOf (.builtin "frozenset.isdisjoint")=aq (.type "method_descriptor"):=by show builtinType _=_;rw[builtinType_eq_fast];kernel_rfl
theorem Y9:entryFor aX "frozenset.isdisjoint"=some Builtin.«frozenset.isdisjoint»:=lK (by kernel_rfl)
theorem IP:entryFor aX "frozenset.isdisjoint.loop"=some Builtin.«frozenset.isdisjoint.loop»:=lK (by kernel_rfl)
theorem Yw (a b:Value):argsOk "frozenset.isdisjoint" ⟨[a,b],[]⟩:=by
 unfold argsOk;rw[signature?_of (id:="frozenset.isdisjoint") (n:=['t','n','i','o','j','s','i','d','s','i']) (o:=['t','e','s','n','e','z','o','r','f']) (by kernel_rfl) FB.owner_frozenset];kernel_rfl
theorem AM:Slot "frozenset" "issuperset" "frozenset.issuperset":=
 .of (owner:="frozenset") (n:="issuperset") (by rw[ny,nz];kernel_rfl) (by decide +kernel) (by decide +kernel) (by decide +kernel)
  (by first|exact .inl (by decide +kernel)|exact .inr (by decide +kernel)) (by rw[fD];kernel_rfl)
theorem R3:typeOf (.builtin "frozenset.issuperset")=aq (.type "method_descriptor"):=by show builtinType _=_;rw[builtinType_eq_fast];kernel_rfl
theorem Om:entryFor aX "frozenset.issuperset"=some Builtin.«frozenset.issuperset»:=lK (by kernel_rfl)
theorem ID:entryFor aX "frozenset.issuperset.loop"=some Builtin.«frozenset.issuperset.loop»:=lK (by kernel_rfl)
theorem Sr (a b:Value):argsOk "frozenset.issuperset" ⟨[a,b],[]⟩:=by
 unfold argsOk;rw[signature?_of (id:="frozenset.issuperset") (n:=['t','e','s','r','e','p','u','s','s','i']) (o:=['t','e','s','n','e','z','o','r','f']) (by kernel_rfl) FB.owner_frozenset];kernel_rfl
end FF
def on (pg:aK)(w:aA)(V:Im)(A:aD)(ew:aB)(v:PV)(st:PS)(name:Str)(id:String):Prop:=
 ∀I ρ s Q E u pl,OK pg w V ew st I ρ s->ce I ρ v u->Q (.builtin id,[u]) s->ag (af pg w) A (getMethod u name pl) Q E s
theorem EJ.io {id}{R:Sem Bool}(U:EJ pg w V A ew o st al v)(O:on pg w V A ew v al name id)(D:am pg w V A ew args al bi vs)(N:ds pg w V A ew (.builtin id) (v::vs) bi lv r)
  (M:eval (.Call (.Attribute o name apos) args [] pos) ew=(do
   let ov <-eval o ew
   dv apos.atName
   let (f,first) <-holding [ov] (getMethod ov name R)
   du pos f first (backTo pos (starEach args ew)) []):=by rfl):
  EJ pg w V A ew (.Call (.Attribute o name apos) args [] pos) st lv r:=λ I h s Q E k q=>by
 rw[M];refine aa (U _ _ _ _ _ k λ d a i u Z T H L C=>aa (a9 (aa (aQ (O _ _ _ _ _ _ _ H C ?_)))));refine callWith_builtin (jV (js D).1) (fV D H λ c J e g G B b Y KM=>?_);exact N _ _ _ _ _ _ b (.cons (C.mono G B) KM) (q.at (Z.trans G) (T.trans B) (Y.trans L))
def EQ (pg:aK)(w:aA)(o:Obj)(S:Str->Bool):Prop:=
 ∃es ep t,o={cls:=.type "frozenset",data:=.set es ep t}/\ElemsOf (strKind pg w) es.toList/\(∀k,S k=true↔∃e∈es.toList,(strKind pg w).is k e.2=true)/\es.size<4096/\t.fits es.size=true
theorem FO {s:ae}{a:Addr}{o:Obj}{S:Str->Bool}{c:Str}{tk:Tok}{Q:Bool->ae->Prop}(M:s.heap.get? a=some o)(F:EQ pg w o S)
  (q:Q (S c) {s with toks:=s.toks+1}):ag (af pg w) A (setContains a (.str c tk)) Q E s:=by
 apply bd;intro L;obtain⟨O,N,t,rfl,D,C,J,H⟩:=F;apply L;unfold setContains;have B:(strKind pg w).is c (.str c tk)=true:=by simp[aW,Value.isStrOf]
 refine aQ (aa ((strKind pg w).pyHash B ?_));refine aa (setFind_any (s:={s with toks:=s.toks+1}) B rfl M rfl D C J H λ r G=>?_);refine ah ?_;rw[G];exact q
theorem Hb {s:ae}{a:Addr}{o:Obj}{S:Str->Bool}{c:Str}{tk:Tok}{Q:Bool->ae->Prop}(H:s.heap.get? a=some o)(F:EQ pg w o S)
  (h:Q (S c) {s with toks:=s.toks+1}):ag (af pg w) A (contains (.ref a) (.str c tk)) Q E s:=by
 apply bd;intro N;obtain⟨R,O,t,rfl,G,C,M,L⟩:=F;apply N;have D:s.TypeIs (.ref a) "frozenset":=⟨_,H,rfl⟩;have B:(strKind pg w).is c (.str c tk)=true:=by simp[aW,Value.isStrOf]
 unfold contains
 try with_reducible refine aQ ?_
 refine aa (wpAny_specialOf D FB.slot_frozenset_contains.lookup ?_);show ag _ _ (if (some (Value.builtin "frozenset.__contains__")==some Value.none)=true then _ else _) _ E s;rw[if_neg (by rw[beq_builtin_none];exact nt)];refine aa (wpAny_callSpecialUnlessNone?_slot (name:=gT "__contains__") D FB.slot_frozenset_contains
  (jj FB.slot_frozenset_contains D FB.entry_frozenset_contains ?_ (FB.args_frozenset_contains_2 _ _)))
 unfold Builtin.«frozenset.__contains__» Builtin.Frozenset.oneOther;simp only[List.isEmpty_nil,bind_assoc];unfold Builtin.Frozenset.addrOf Builtin.Frozenset.withSetAsKey setContains;refine aa (ah ?_)
 try dsimp only
 refine aa (ah ?_)
 try dsimp only
 refine aa (wpAny_tryCatch ?_);refine aQ ?_;refine aa ((strKind pg w).pyHash B ?_);refine aa (setFind_any (s:={s with toks:=s.toks+1}) B rfl H rfl G C M L λ r J=>?_);refine ah ?_;show ag _ _ (ret (Value.bool r.isSome)) _ _ _;rw[J];exact ah ⟨_,rfl,wpAny_truthy_bool h⟩
theorem CJ.in_froz {c:Str}{S}(D:V a=some o)(F:EQ pg w o S):CJ pg w V A ew .In (.str c) (.obj a) st (S c):=λ I G s Q E u v k B C q=>by
 obtain⟨_,rfl⟩:=B.inv;obtain(⟨_,rfl⟩):=C.inv;show ag _ _ (do return .bool (<-contains _ _)) Q E s;exact aa (Hb (k.inv.lw _ _ (k.top _ _ D)) F (ah (q.toks k (.bool _))))
theorem CJ.notin_froz {c:Str}{S}(D:V a=some o)(F:EQ pg w o S):CJ pg w V A ew .NotIn (.str c) (.obj a) st (!S c):=λ I G s Q E u v k B C q=>by
 obtain⟨_,rfl⟩:=B.inv;obtain(⟨_,rfl⟩):=C.inv;show ag _ _ (do return .bool (!(<-contains _ _))) Q E s;exact aa (Hb (k.inv.lw _ _ (k.top _ _ D)) F (ah (q.toks k (.bool _))))
theorem on.isdisjoint {S}(B:V a=some o)(F:EQ pg w o S):on pg w V A ew (.obj a) st "isdisjoint" "frozenset.isdisjoint":=λ I L s Q E u J k C q=>by
 apply bd;intro D;obtain(⟨_,rfl⟩):=C.inv;obtain⟨H,G,t,rfl,_⟩:x32:=F;apply D;have B:=k.inv.lw _ _ (k.top _ _ B);exact getMethod_builtin ⟨_,B,rfl⟩ FF.Ge FF.Bp FF.Ol (λ b e=>by cases e;exact⟨_,B,rfl⟩) q
theorem on.issuperset {S}(B:V a=some o)(F:EQ pg w o S):on pg w V A ew (.obj a) st "issuperset" "frozenset.issuperset":=λ I L s Q E u J k C q=>by
 apply bd;intro D;obtain(⟨_,rfl⟩):=C.inv;obtain⟨H,G,t,rfl,_⟩:x32:=F;apply D;have B:=k.inv.lw _ _ (k.top _ _ B);exact getMethod_builtin ⟨_,B,rfl⟩ FF.Ge FF.AM FF.R3 (λ b e=>by cases e;exact⟨_,B,rfl⟩) q
noncomputable def wP (c:Nat):Str:=⟨#[c]⟩
theorem Rv {a it:Addr}{o:Obj}{S:Str->Bool}{x:Str}{St:Nat->Heap->Prop}{R:Result->ae->Prop}(G:a≠it)
  (F:EQ pg w o S) (N:A.handled=none) (W:∀L:aD,L.handled=none->Walks pg w L it [it] [it] x.cps.size (SignAt x) St):
  ∀(n i:Nat) (s:ae),i+n=x.cps.size->s.heap.get? a=some o->St i s.heap ->
   (∀h' tk,gP it s.heap h'->R (.ok (.ret (.bool ((x.cps.toList.drop i).all λ c=>!S (wP c))))) {s with heap:=h',toks:=tk}) ->
   codeAny (af pg w) A (.builtin "frozenset.isdisjoint.loop" ⟨[.ref a,.ref it],[]⟩) R s:=by
 intro n
 induction n with
 |zero=>
  intro i s O M de q;refine gd FF.IP ?_
  k_delta "frozenset.isdisjoint.loop"
  have kD:i=x.cps.size:=O;subst kD;refine aa ((W _ (by exact N)).done _ _ _ de λ h' tk D=>ah ?_);have:=q h' tk λ b B C e=>D b B (by simpa using C) e
  rw[List.drop_eq_nil_of_le (by simp)] at this
  simpa using this
 |succ n U=>
  intro i s O M de q;refine gd FF.IP ?_
  k_delta "frozenset.isdisjoint.loop"
  refine aa ((W _ (by exact N)).item i _ _ _ (by lia) de λ v h' tk I BX D=>?_);apply bd;intro Q;obtain⟨c,u,Y,rfl⟩:=I;apply Q;have v6:h'.get? a=some o:=D a o (by simpa using G) M;refine aa (aQ (FO (s:={s with heap:=h',toks:=tk}) v6 F ?_));have J:x.cps.toList.drop i=c::x.cps.toList.drop (i+1):=by
   have:x.cps.toList[i]? = some c:=by simpa using Y
   obtain⟨Z,T⟩:=cb.mp this;rw[uS Z,T]
  cases H:S ⟨#[c]⟩ with
  |true=>
   refine ah ?_;have:=q h' (tk+1) λ b B C e=>D b B (by simpa using C) e
   rw[J] at this
   simpa [wP,H] using this
  |false=>
   refine ah ⟨lL _ (by decide +kernel),U (i+1) _ (by lia) v6 BX λ kQ ij uz=>?_⟩;have:=q kQ ij λ b B C e=>uz b B C (D b B (by simpa using C) e)
   rw[J] at this
   simpa [wP,H] using this
theorem YZ {a it:Addr}{o:Obj}{S:Str->Bool}{x:Str}{St:Nat->Heap->Prop}{R:Result->ae->Prop}(G:a≠it)
  (F:EQ pg w o S) (N:A.handled=none) (W:∀L:aD,L.handled=none->Walks pg w L it [it] [it] x.cps.size (SignAt x) St):
  ∀(n i:Nat) (s:ae),i+n=x.cps.size->s.heap.get? a=some o->St i s.heap ->
   (∀h' tk,gP it s.heap h'->R (.ok (.ret (.bool ((x.cps.toList.drop i).all λ c=>S (wP c))))) {s with heap:=h',toks:=tk}) ->
   codeAny (af pg w) A (.builtin "frozenset.issuperset.loop" ⟨[.ref a,.ref it],[]⟩) R s:=by
 intro n
 induction n with
 |zero=>
  intro i s O M de q;refine gd FF.ID ?_
  k_delta "frozenset.issuperset.loop"
  have kD:i=x.cps.size:=O;subst kD;refine aa ((W _ (by exact N)).done _ _ _ de λ h' tk D=>ah ?_);have:=q h' tk λ b B C e=>D b B (by simpa using C) e
  rw[List.drop_eq_nil_of_le (by simp)] at this
  simpa using this
 |succ n U=>
  intro i s O M de q;refine gd FF.ID ?_
  k_delta "frozenset.issuperset.loop"
  refine aa ((W _ (by exact N)).item i _ _ _ (by lia) de λ v h' tk I BX D=>?_);apply bd;intro Q;obtain⟨c,u,Y,rfl⟩:=I;apply Q;have v6:h'.get? a=some o:=D a o (by simpa using G) M;refine aa (aQ (FO (s:={s with heap:=h',toks:=tk}) v6 F ?_));have J:x.cps.toList.drop i=c::x.cps.toList.drop (i+1):=by
   have:x.cps.toList[i]? = some c:=by simpa using Y
   obtain⟨Z,T⟩:=cb.mp this;rw[uS Z,T]
  cases H:S ⟨#[c]⟩ with
  |false=>
   refine ah ?_;have:=q h' (tk+1) λ b B C e=>D b B (by simpa using C) e
   rw[J] at this
   simpa [wP,H] using this
  |true=>
   refine ah ⟨lL _ (by decide +kernel),U (i+1) _ (by lia) v6 BX λ kQ ij uz=>?_⟩;have:=q kQ ij λ b B C e=>uz b B C (D b B (by simpa using C) e)
   rw[J] at this
   simpa [wP,H] using this
theorem Sc.yB (k:OK pg w V ew st I ρ s)(B:gP s.heap.objs.size (s.heap.push o) h'):OK pg w V ew st I ρ {s with heap:=h',toks:=tk}:=by
 have O:=dE k (aJ s.heap.objs.size);exact(k.grow (Pi.push _ o)).extBut B O.im O.gB O.fr O.fs
set_option tactic.hygienic true in
theorem ds.isdisjoint {S}{x:Str}(M:A.handled=none)(J:V a=some o)(F:EQ pg w o S):ds pg w V A ew (.builtin "frozenset.isdisjoint") [.obj a,.str x] st st (.bool (x.cps.toList.all λ c=>!S (wP c))):=λ I R s Q E f k jp q=>by
 apply bd;intro O;obtain⟨v,u,rfl,T,N⟩:=gq jp;obtain(⟨_,rfl⟩):=T.inv;obtain⟨_,rfl⟩:=N.inv;apply O;have v6:=k.inv.lw _ _ (k.top _ _ J);have L:s.TypeIs (.ref a) "frozenset":=by obtain⟨Y,Z,t,rfl,_⟩:x32:=F;exact⟨_,v6,rfl⟩
 rename_i d
 refine wpAny_call (codeAny_call_builtin FF.Bp.plain FF.Y9 (FF.Bp.check _ _ _ _ _ _ _ _ L (FF.Yw _ _) ?_));unfold Builtin.«frozenset.isdisjoint» Builtin.Frozenset.oneOther;simp only[List.isEmpty_nil,bind_assoc];unfold Builtin.Frozenset.addrOf;refine aa (ah ?_)
 try dsimp only
 refine aa (ah ?_)
 try dsimp only
 rw[if_neg (by simp)];refine aa (ah ?_);refine aa (wpAny_pyIter_str λ U St W de=>?_);refine ah ⟨lL _ (by decide +kernel),?_⟩;have C:a≠s.heap.objs.size:=aS (bP v6);refine Rv C F M W x.cps.size 0 _ (iG ..) (bH _ v6) de λ D ij G=>?_
 have H:OK pg w V ew st I R {s with heap:=D,toks:=ij}:=Sc.yB k G;exact q _ _ {s with heap:=D,toks:=ij} _ (.refl _) (.refl _) H rfl (.bool _)
set_option tactic.hygienic true in
theorem ds.issuperset {S}{x:Str}(M:A.handled=none)(J:V a=some o)(F:EQ pg w o S):ds pg w V A ew (.builtin "frozenset.issuperset") [.obj a,.str x] st st (.bool (x.cps.toList.all λ c=>S (wP c))):=λ I O s Q E d k jp q=>by
 obtain⟨v,u,rfl,R,N⟩:=gq jp;obtain(⟨_,rfl⟩):=R.inv;obtain⟨_,rfl⟩:=N.inv;have v6:=k.inv.lw _ _ (k.top _ _ J);have L:s.TypeIs (.ref a) "frozenset":=by obtain⟨U,Y,t,rfl,_⟩:x32:=F;exact⟨_,v6,rfl⟩
 rename_i Z
 refine wpAny_call (codeAny_call_builtin FF.AM.plain FF.Om (FF.AM.check _ _ _ _ _ _ _ _ L (FF.Sr _ _) ?_));unfold Builtin.«frozenset.issuperset» Builtin.Frozenset.oneOther;simp only[List.isEmpty_nil,bind_assoc];unfold Builtin.Frozenset.addrOf;refine aa (ah ?_)
 try dsimp only
 refine aa (ah ?_)
 try dsimp only
 refine aa (jk (a:=false) (by rfl) ?_);rw[if_neg (by decide)];refine aa (wpAny_pyIter_str λ T St W de=>?_);refine ah ⟨lL _ (by decide +kernel),?_⟩;have C:a≠s.heap.objs.size:=aS (bP v6);refine YZ C F M W x.cps.size 0 _ (iG ..) (bH _ v6) de λ D ij G=>?_
 have H:OK pg w V ew st I O {s with heap:=D,toks:=ij}:=Sc.yB k G;exact q _ _ {s with heap:=D,toks:=ij} _ (.refl _) (.refl _) H rfl (.bool _)
noncomputable def bM (pg:aK)(w:aA)(V:Im)(A:aD)(ew:aB):List Keyword->PS->PS->List (Str×PV)->Prop
 | [],st,bv,vs=>bv=st/\vs=[]
 |k::ks,st,bv,vs=>∃e n al v eL,vs=(n,v)::eL/\(keywordEach (k::ks) ew=(some n,eval e ew)::keywordEach ks ew)/\EJ pg w V A ew e st al v/\bM pg w V A ew ks al bv eL
theorem bM.nil:bM pg w V A ew [] st st []:=⟨rfl,rfl⟩
theorem bM.cons (D:EJ pg w V A ew e st al v)(C:bM pg w V A ew ks al bi vs)(B:keywordEach (k::ks) ew=(some n,eval e ew)::keywordEach ks ew:=by rfl):
  bM pg w V A ew (k::ks) st bi ((n,v)::vs):=⟨_,_,_,_,_,rfl,B,D,C⟩
theorem bM.all:∀{st bv:PS}{rs},bM pg w V A ew ks st bv rs->(backToKw pos (keywordEach ks ew)).all (·.1.isSome)=true/\(backToKw pos (keywordEach ks ew)).filterMap (·.1)=rs.map (·.1):=by
 induction ks with
 |nil=>intro st bv rs h;obtain⟨rfl,rfl⟩:x02:=h;exact⟨rfl,rfl⟩
 |cons k ks B=>
  intro st bv rs h;apply bd;intro D;obtain⟨e,n,al,v,eL,rfl,C,H,G⟩:x213302:=h;apply D;rw[C];obtain⟨a,b⟩:x02:=B G;exact⟨by simpa [backToKw] using a,by simpa [backToKw] using b⟩
theorem bM.evalAll:∀{st bv:PS}{rs I B s Q E},bM pg w V A ew ks st bv rs->OK pg w V ew st I B s->zi pg w V ew bv (rs.map (·.2)) I B s Q->ag (af pg w) A (evalAll ((backToKw pos (keywordEach ks ew)).map (·.2))) Q E s:=by
 induction ks with
 |nil=>
  intro st bv rs I B s Q E h k q;obtain⟨rfl,rfl⟩:x02:=h;exact ah (q _ _ _ _ (.refl _) (.refl _) k rfl .nil)
 |cons g ks L=>
  intro st bv rs I B s Q E h k q;apply bd;intro R;obtain⟨e,n,al,v,eL,rfl,N,O,J⟩:x213302:=h;apply R;rw[N];show ag _ _ (do let v <-(do let v <-eval e ew;dv pos;aq v);let vs <-holding [v] (PySem.evalAll ((backToKw pos (keywordEach ks ew)).map (·.2)));aq (v::vs)) Q E s;refine aa (aa (O _ _ _ _ _ k λ Y T f u a b c d e=>aa (a9 (ah (aa (aQ (L J c λ U G j Z D C M H e2=>ah ?_)))))));exact q _ _ _ _ (a.trans D) (b.trans C) M (H.trans d) (.cons (e.mono D C) e2)
theorem Je:∀{rs:List (Str×PV)}{vs},lm I ρ (rs.map (·.2)) vs->f9 I ρ rs ((rs.map (·.1)).zip vs):=by
 intro B
 induction B with
 |nil=>
  intro vs h;cases h;exact⟨rfl,.nil⟩
 |cons D rs C=>
  obtain(⟨n,v⟩):=D;intro vs h;obtain⟨_,_,rfl,a,b⟩:=h.inv;have:=C b;refine⟨?_,.cons a this.2⟩;exact congrArg (n :: ·) this.1
theorem EJ.t8 {bn}{cG:PS}(i:EJ pg w V A ew func st al (.obj f))(d:V f=some o)(b:o.data = .func fd)(c:am pg w V A ew (a::args) al bi vs)(mI:bM pg w V A ew kws bi lv kvs)
  (g:nb pg w V k f vs kvs lv.ph bn r) (R:wn A k) (C:Uf A ew lv.fs)
  (N:eval (.Call func (a::args) kws pos) ew=(do du pos (<-eval func ew) [] (backTo pos (starEach (a::args) ew)) (backToKw pos (keywordEach kws ew))):=by rfl)
  (T:starEach (a::args) ew=(false,eval a ew)::starEach args ew:=by rfl):
  EJ pg w V A ew (.Call func (a::args) kws pos) st {lv with ph:=bn} r:=λ I z s Q E h q=>by
 rw[N];refine aa (i _ _ _ _ _ h λ n j u v Z U cX e l=>?_);obtain(⟨_,rfl⟩):=l.inv;obtain⟨D,B⟩:x02:=mI.all (pos:=pos);refine callWith_function_kw (o:=o) (fd:=fd) (evalArgs_kw2 D (c.spliced cX λ m J y p Y O PP M KM=>mI.evalAll PP λ x L t X G H gL o3 AW=>?_) T);refine⟨⟨gL.inv.lw _ _ (gL.top _ _ d),b⟩,?_⟩;rw[B];exact g _ _ _ _ _ _ _ _ _ _ R C rfl gL (KM.mono G H) (Je AW) (q.at ((Z.trans Y).trans G) ((U.trans O).trans H) (o3.trans (M.trans e)))
theorem BJ.floordiv_int {a b:Int}(B:b≠0)(C:b.natAbs.log2<9000):BJ pg w V A ew .FloorDiv (.int a) (.int b) st st (.int (a.fdiv b)):=λ I H s Q E u v h D G q=>by
 obtain⟨_,rfl⟩:=D.inv;obtain⟨_,rfl⟩:=G.inv;exact PyProof.Rows.floordiv_int B (q.toks h (.int _ _)) (.inl (PyProof.noPylong_of_log2 C))
theorem on.str {x:Str}{name:Str}{id:String}(slot:Slot "str" name id)(B:typeOf (.builtin id)=aq (.type "method_descriptor")):on pg w V A ew (.str x) st name id:=λ I G s Q E u D k C q=>by
 obtain⟨_,rfl⟩:=C.inv;exact GM.of _ (typeIs_str _ _ _) slot B (λ _ e=>nomatch e) q
theorem on.index:on pg w V A ew (.str x) st "index" "str.index":=on.str F.slot_str_index F.type_str_index
theorem on.upper:on pg w V A ew (.str x) st "upper" "str.upper":=on.str F.slot_str_upper F.type_str_upper
theorem on.join:on pg w V A ew (.str x) st "join" "str.join":=on.str F.slot_str_join F.type_str_join
theorem t5 (h:lm I ρ [x,y,z] vs):∃v u t,vs=[v,u,t]/\ce I ρ x v/\ce I ρ y u/\ce I ρ z t:=by
 obtain⟨_,_,rfl,a,b⟩:=h.inv;obtain⟨_,_,rfl,c,d⟩:=gq b;exact⟨_,_,_,rfl,a,c,d⟩
theorem Nq (x y:Str)(i:Int)(t u v:Tok)(k:Nat)(rest:List Nat)(h:cL x y (bg x.length i) x.length 1=k::rest):Gives (Builtin.«str.index» ⟨[.str x t,.str y u,.int i v],[]⟩) (.int k):=by
 show Gives (match cL x y (bg x.length i) (min x.length x.length) 1 with|i::_=>retInt i | []=>(do rule "str.index.not-found";raiseError "ValueError" "substring not found")) _;rw[Nat.min_self,h];exact .of_eq rfl
theorem Rj (x y:Str)(i:Int)(t u v:Tok)(h:cL x y (bg x.length i) x.length 1=[]):Meets (Builtin.«str.index» ⟨[.str x t,.str y u,.int i v],[]⟩) (raisesNew "ValueError"):=by
 intro pg w A R s B;show ag _ _ (match cL x y (bg x.length i) (min x.length x.length) 1 with|i::_=>retInt i | []=>_) _ _ s;rw[Nat.min_self,h]
 first
  |exact aa (fE (by exact_raiseError plainExc_ValueError B.1 B.2))
  |exact aa (fE (aa (by exact_raiseError plainExc_ValueError B.1 B.2)))
theorem ds.xe {x y:Str}{i:Int}{k:Nat}{rest:List Nat}(h:cL x y (bg x.length i) x.length 1=k::rest):ds pg w V A ew (.builtin "str.index") [.str x,.str y,.int i] st st (.int k):=λ I H s Q E J B jp q=>by
 obtain⟨v,u,t,rfl,G,D,C⟩:=t5 jp;obtain⟨_,rfl⟩:=G.inv;obtain⟨_,rfl⟩:=D.inv;obtain⟨_,rfl⟩:=C.inv;exact call_gives F.slot_str_index (typeIs_str _ _ _) F.entry_str_index (F.args_str_index_3 _ _ _) (Nq x y i _ _ _ k rest h) (q.toks B (.int _ _))
theorem ds.upper {x:Str}(B:rE (Txt.upper x).length=false):ds pg w V A ew (.builtin "str.upper") [.str x] st st (.str (Txt.upper x)):=λ I G s Q E H C jp q=>by
 obtain⟨v,rfl,D⟩:=cz jp;obtain⟨_,rfl⟩:=D.inv;exact SC.upper B (q.toks C (.str _ _))
theorem RX.io {id}{h:Sem Bool}(i:EJ pg w V A ew o st al v)(g:on pg w V A ew v al name id)(N:am pg w V A ew args al bi vs)
  (T:∀I D s Q E G,OK pg w V ew bi I D s->lm I D (v::vs) G->(∀C B s' e,nw I C->pu D B->OK pg w V ew lv C B s'->s'.os=s.os->kY ew lv C B s'.heap c e->E (.ref e) s')->ag (af pg w) A (call (.builtin id) G) Q E s)
  (R:eval (.Call (.Attribute o name apos) args [] pos) ew=(do
   let ov <-eval o ew
   dv apos.atName
   let (f,first) <-holding [ov] (getMethod ov name h)
   du pos f first (backTo pos (starEach args ew)) []):=by rfl):
  RJ pg w V A ew (eval (.Call (.Attribute o name apos) args [] pos) ew) st lv c:=λ I D s Q E k q=>by
 rw[R];refine aa (i _ _ _ _ _ k λ p j r u Y U L l M=>aa (a9 (aa (aQ (g _ _ _ _ _ _ _ L M ?_)))));refine callWith_builtin (jV (js N).1) (fV N L λ n O t G J H m Z KM=>?_);exact T _ _ _ _ _ _ m (.cons (M.mono J H) KM) λ C B s' e a b c d x=>q _ _ _ _ ((Y.trans J).trans a) ((U.trans H).trans b) c (d.trans (Z.trans l)) x
theorem RX.xe {L:Sem Bool}(C:A.handled=none)(M:EJ pg w V A ew o st al (.str x))(J:am pg w V A ew [a,b] al bi [.str y,.int i])(h:cL x y (bg x.length i) x.length 1=[])
  (G:eval (.Call (.Attribute o "index" apos) [a,b] [] pos) ew=(do
   let ov <-eval o ew
   dv apos.atName
   let (f,first) <-holding [ov] (getMethod ov "index" L)
   du pos f first (backTo pos (starEach [a,b] ew)) []):=by rfl):
  RJ pg w V A ew (eval (.Call (.Attribute o "index" apos) [a,b] [] pos) ew) st bi (.type "ValueError"):=
 RX.io M on.index J (λ I U s Q E T k KM q=>by
  obtain⟨v,u,t,rfl,O,H,D⟩:=t5 KM;obtain⟨_,rfl⟩:=O.inv;obtain⟨_,rfl⟩:=H.inv;obtain⟨_,rfl⟩:=D.inv;exact call_meets F.slot_str_index (typeIs_str _ _ _) F.entry_str_index (F.args_str_index_3 _ _ _) (Rj x y i _ _ _ h) ⟨C,λ R B e N=>q _ _ _ _ (.refl _) (.refl _) (td (tk:=B) k N).1 rfl (td (tk:=B) k N).2⟩) G
theorem Jc:∀{xs:List Str}{vs},lm I ρ (xs.map .str) vs->∃l:List (Str×Tok),l.map (·.1)=xs/\vs=strValues l:=by
 intro B
 induction B with
 |nil=>
  intro vs h;cases h;exact⟨[],rfl,rfl⟩
 |cons x xs C=>
  intro vs h;apply bd;intro D;obtain⟨_,_,rfl,a,b⟩:=h.inv;obtain⟨l,e1,e2⟩:=C b;obtain⟨t,rfl⟩:=a.inv;apply D;exact⟨(x,t)::l,by simp[e1],by simp[strValues,e2]⟩
theorem Up {sep:Str}{l:List (Str×Tok)}(C:sep=⟨#[]⟩){Q:Value->ae->Prop}{s:ae}(B:(d9 sep (l.map (·.1))).length<=aH)(q:∀t k,Q (.str (d9 sep (l.map (·.1))) t) {s with toks:=k}):(joinMade sep l).post Q s:=by
 subst C
 match l with
 | []=>exact⟨B,q _ _⟩
 | [p]=>
  have e:d9 ⟨#[]⟩ ([p].map (·.1))=p.1:=by obtain(⟨x,t⟩):=p;simp[d9]
  have:=q p.2 s.toks;rw[e] at this;exact this
 |p::r::l=>exact⟨B,q _ _⟩
theorem Io {s:ae}{sep:Str}{t:Tok}{a:Addr}{l:List (Str×Tok)}{Q:Value->ae->Prop}(G:sep=⟨#[]⟩)(C:s.heap.IsList a (strValues l).toArray)(D:rE ((l.map (·.1)).toArray.foldl (· + ·.length+sep.length) 0)=false)
  (B:(d9 sep (l.map (·.1))).length<=aH) (q:∀t k,Q (.str (d9 sep (l.map (·.1))) t) {s with toks:=k}):ag (af pg w) A (call (.builtin "str.join") [.str sep t,.ref a]) Q E s:=
 call_meets F.slot_str_join (typeIs_str _ _ _) F.entry_str_join (F.args_str_join_2 _ _) (meets_str_join_list sep t a l D) ⟨C,Up G B q⟩
theorem ds.Ho {sep:Str}{xs:List Str}(H:sep=⟨#[]⟩)(D:rE (xs.toArray.foldl (· + ·.length+sep.length) 0)=false)(B:(d9 sep xs).length<=aH):
  ds pg w V A ew (.builtin "str.join") [.str sep,.lst (xs.map .str)] st st (.str (d9 sep xs)):=λ I M s Q E N C jp q=>by
 apply bd;intro J;obtain⟨v,u,rfl,L,G⟩:=gq jp;obtain⟨_,rfl⟩:=L.inv;obtain⟨_,_,_,rfl,e,r⟩:=G.inv;obtain⟨l,rfl,rfl⟩:=Jc r;apply J;exact Io H (IsL.isList (C.inv.lw _ _ e)) D B λ t k=>q.toks C (.str _ _)
theorem ds.Ml {sep:Str}{n:Nat}{xs:List Str}(M:st.ph[n]? = some (.list (xs.map .str)))(O:sep=⟨#[]⟩)(J:rE (xs.toArray.foldl (· + ·.length+sep.length) 0)=false)(C:(d9 sep xs).length<=aH):
  ds pg w V A ew (.builtin "str.join") [.str sep,.ref n] st st (.str (d9 sep xs)):=λ I Y s Q E Z H jp q=>by
 apply bd;intro D;obtain⟨v,u,rfl,R,N⟩:=gq jp;obtain⟨_,rfl⟩:=R.inv;obtain⟨_,_,rfl,e⟩:=N.inv;obtain⟨T,B,U,G,L,r⟩:=H.inv.obj n _ _ M e;apply D;cases G;apply bd;intro D;obtain⟨l,rfl,rfl⟩:=Jc r;apply D;exact Io O L.isList J C λ t k=>q.toks H (.str _ _)
noncomputable def XL:List Nat:=[48,49,50,51,52,53,54,55,56,57,97,98,99,100,101,102,65,66,67,68,69,70]
noncomputable def bO (c:Nat):Nat:=if c<=57 then c - 48 else if c<=70 then c - 55 else c - 87
structure ie (c:Nat):Prop where
 lt:c<128
 xG:(c != 0)=true
 blank:(c==32||(decide (9<=c)&&decide (c<=13)))=false
 YC:c≠45
 Tx:c≠43
 m6:(c==95)=false
 px:(c==120||c==88)=false
 po:(c==111||c==79)=false
 dig:(if (decide (48<=c)&&decide (c<=57))=true then some (c - 48) else if (decide (97<=c)&&decide (c<=122))=true then some (c - 87) else if (decide (65<=c)&&decide (c<=90))=true then some (c - 55) else none)=some (bO c)
 small:bO c<16
theorem ie.of {c:Nat}(h:c∈XL):ie c:=by
 obtain⟨a,b,d,e,f,g,i,j,k,l⟩:x040404:=(by decide:∀c∈XL,c<128/\(c != 0)=true/\(c==32||(decide (9<=c)&&decide (c<=13)))=false/\c≠45/\c≠43/\(c==95)=false/\(c==120||c==88)=false/\(c==111||c==79)=false /\
  (if (decide (48<=c)&&decide (c<=57))=true then some (c - 48) else if (decide (97<=c)&&decide (c<=122))=true then some (c - 87) else if (decide (65<=c)&&decide (c<=90))=true then some (c - 55) else none)=some (bO c)/\bO c<16) c h
 exact⟨a,b,d,e,f,g,i,j,k,l⟩
theorem Qg (a b:Value):checkTypeCall "int" ⟨[a,b],[]⟩=aq ():=by kernel_rfl
theorem Nw (a b:Value):checkBuiltinCall "int.__new__" ⟨[.type "int",a,b],[]⟩=aq ():=by kernel_rfl
theorem QV (a b c d:Nat):Array.foldl (λ B d=>B * 16+d) 0 ((((#[].push a).push b).push c).push d)=((a * 16+b) * 16+c) * 16+d:=by simp
theorem M7 (a b c d:Nat)(t u:Tok)(G:a∈([56,52,97,99,65,67,100,68]:List Nat))(H:b∈XL)(L:c∈XL)(J:d∈XL):
  Gives (Builtin.«int.__new__» ⟨[.type "int",.str ⟨#[a,b,c,d]⟩ t,.int 16 u],[]⟩) (.int (((bO a * 16+bO b) * 16+bO c) * 16+bO d:Nat)):=
 .of_wp λ M A E s Q h=>by
  obtain(⟨U,g,R,Y,os⟩):=s;have O:=F.conv_sub_int;have T:=F.madeHere_int;have B:ie a:=ie.of ((by decide:∀a∈([56,52,97,99,65,67,100,68]:List Nat),a∈XL) a G);have A2:=ie.of H;have A3:=ie.of L;have C:=ie.of J;unfold Builtin.«int.__new__»
  repeat (any_goals (first|assumption|wp_step))
  have e1:(if ((⟨#[a,b,c,d]⟩:Str).cps.all λ x=>decide (x<128))=true then (⟨#[a,b,c,d]⟩:Str).cps.toList else Unicode.numberText (⟨#[a,b,c,d]⟩:Str).cps.toList)=[a,b,c,d]:=by
   simp[B.lt,A2.lt,A3.lt,C.lt]
  rw[e1];have e2:List.takeWhile (λ x=>x != 0) [a,b,c,d]=[a,b,c,d]:=by
   simp only[List.takeWhile,B.xG,A2.xG,A3.xG,C.xG]
  rw[e2];rw[if_pos (show([a,b,c,d]:List Nat).length<=640 from by simp)];refine aa (ah ?_);dsimp only;have N:List.dropWhile (λ c=>c==32||(decide (9<=c)&&decide (c<=13))) [a,b,c,d]=[a,b,c,d]:=by simp only[List.dropWhile,B.blank]
  have D:(List.dropWhile (λ c=>c==32||(decide (9<=c)&&decide (c<=13))) [a,b,c,d].reverse).reverse=[a,b,c,d]:=by
   rw[show [a,b,c,d].reverse=[d,c,b,a] from rfl];simp only[List.dropWhile,C.blank]
   rfl
  have A0:a≠48:=(by decide:∀a∈([56,52,97,99,65,67,100,68]:List Nat),a≠48) a G;have Vw:∀r,[a,b,c,d]=45::r->False:=λ r e=>B.YC (List.cons.inj e).1
  have Sg:∀r,[a,b,c,d]=43::r->False:=λ r e=>B.Tx (List.cons.inj e).1
  have RD:∀x r,[a,b,c,d]=48::x::r->False:=λ x r e=>A0 (List.cons.inj e).1
  conv=>
   arg 3
   arg 2
   tactic=>
    show @id Prop _
    k_delta "readNumeral"
    k_delta "isBlank"
    k_delta "numeralDigits?"
    k_delta "digitValue?"
    dsimp only
    rewrite [N]
    simp (config:={decide:=true}) only[D,List.foldlM,B.m6,A2.m6,A3.m6,C.m6,B.dig,A2.dig,A3.dig,C.dig,B.small,A2.small,A3.small,C.small,rF,if_false,if_true]
    k_delta "prefixBase?"
    simp (config:={decide:=true}) only[Vw,Sg,RD,D,List.foldlM,B.m6,A2.m6,A3.m6,C.m6,B.dig,A2.dig,A3.dig,C.dig,B.small,A2.small,A3.small,C.small,rF,if_false,if_true]
    rewrite [show Int.toNat 16=16 from rfl]
    simp only[B.small,A2.small,A3.small,C.small,if_true];exact rfl
  show ag M A (ite (_:Prop) _ _) _ E _;rw[if_pos (beq_self_eq_true _)];dsimp only;rw[QV];exact wpAny_mkInt (ah ⟨_,rfl,h⟩)
theorem ds.Ee {pg:aK}{w:aA}{V:Im}{A:aD}{ew:aB}{st:PS}{a b c d:Nat}(G:a∈([56,52,97,99,65,67,100,68]:List Nat))(B:b∈XL)(C:c∈XL)(H:d∈XL):
  ds pg w V A ew (.type "int") [.str ⟨#[a,b,c,d]⟩,.int 16] st st (.int (((bO a * 16+bO b) * 16+bO c) * 16+bO d:Nat)):=λ I L s Q E M k jp q=>by
 obtain⟨v,u,rfl,J,D⟩:=gq jp;obtain⟨_,rfl⟩:=J.inv;obtain⟨_,rfl⟩:=D.inv;exact callType_new F.called_int F.newNe_int (Qg _ _) (Nw _ _) (λ obj=>F.args_object_init_3 obj _ _) F.entry_int_new (M7 a b c d _ _ G B C H).meets ⟨rfl,q.toks k (.int _ _)⟩
theorem Qe {B:wl}(nd:B.flatten.Nodup){m n:Nat}{G bs:List Addr}(N:B[m]? = some G)(M:B[n]? = some bs)(C:m≠n):∀a∈G,a∉bs:=by
 have P:=List.pairwise_iff_getElem.mp (List.pairwise_flatten.mp nd).2;obtain⟨H,rfl⟩:=cb.mp N;obtain⟨L,rfl⟩:=cb.mp M;exact λ a D J=>(Nat.lt_or_gt_of_ne C).elim (λ l=>P _ _ H L l a D a J rfl) λ l=>P _ _ L H l a J a D rfl
theorem AA {α:Type}{l:List α}{x y:α}{n:Nat}(h:(l++[x])[n]? = some y):(n<l.length/\l[n]? = some y)\/(n=l.length/\y=x):=by
 rcases Nat.lt_or_ge n l.length with q|q
 .exact .inl ⟨q,(cm q).symm.trans h⟩
 .rw[fF q] at h
  cases z:n - l.length with
  |zero=>rw[z] at h;exact .inr ⟨Nat.le_antisymm (Nat.le_of_sub_eq_zero z) q,(Option.some.inj h).symm⟩
  |succ m=>rw[z] at h;exact nomatch h
theorem HY {a:Addr}:[a].Nodup:=c8.mpr ⟨e7,List.nodup_nil⟩
theorem j0 {B:wl}:a∈(B++[as]).flatten↔a∈B.flatten\/a∈as:=by rw[List.flatten_append,(be),List.flatten_singleton]
theorem Do.setAt (H:Do pg w I ρ ph h)(D:ρ[n]? = some as)(G:∀a B,a∉as->h.get? a=some B->h'.get? a=some B)(gv:∀a∈as,∃B,h'.get? a=some B)(L:cY pg w I ρ h' o as):Do pg w I ρ (ph.set n o) h':=by
 have tK:∀a∈as,a∈ρ.flatten:=λ a C=>H.mem D C
 refine⟨λ a B e=>G a B (λ C=>?_) (H.lw a B e),by rw[jl];exact H.len,λ m B J e1 e2=>?_,H.wv,λ a C=>?_⟩
 .exact bu ((H.out a (tK a C)).1.symm.trans e)
 .by_cases q:m=n
  .subst q;obtain rfl:=Option.some.inj (D.symm.trans e2);rw[j5 (by rw[<-H.len];exact(cb.mp D).1)] at e1;exact Option.some.inj e1▸L
  .rw[List.getElem?_set_ne (Ne.symm q)] at e1;exact(H.obj m B J e1 e2).mono _ _ (.refl _) (.refl _) λ a C B e=>G a B (Qe H.wv e2 D q a C) e
 .obtain⟨p,B,e⟩:x0211:=H.out a C
  by_cases q:a∈as
  .exact⟨p,gv a q⟩
  .exact⟨p,B,G a B q e⟩
theorem OK.setAt (k:OK pg w V ew st I ρ s)(J:ρ[n]? = some as)(D:∀a B,a∉as->s.heap.get? a=some B->h'.get? a=some B)(gv:∀a∈as,∃B,h'.get? a=some B)(Y:cY pg w I ρ h' o as):
  OK pg w V ew {st with ph:=st.ph.set n o} I ρ {s with heap:=h',toks:=tk}:=by
 have tK:∀a∈as,a∈ρ.flatten:=λ a R=>k.inv.mem J R
 refine⟨k.inv.setAt J D gv Y,⟨?_,λ x c e=>?_,k.fr.bt,k.fr.cout,k.fr.apart⟩,k.gens,k.top,λ p N=>?_⟩
 .apply bd;intro C;obtain⟨m,⟨B,M,L,e1,r⟩,O⟩:=k.fr.ns;apply C;exact⟨m,⟨B,M,L,D _ _ (λ q=>k.fr.bt.2 (tK _ q)) e1,r⟩,O⟩
 .apply bd;intro C;obtain⟨u,⟨B,e1,G⟩,r⟩:=k.fr.cell x c e;apply C;exact⟨u,⟨B,D _ _ (λ q=>(k.fr.cout x c e).2.1 (tK _ q)) e1,G⟩,r⟩
 .apply bd;intro C;obtain⟨⟨B,e1,G⟩,T,H,U⟩:x04:=k.No p N;apply C;exact⟨⟨B,D _ _ (λ q=>H (tK _ q)) e1,G⟩,T,H,U⟩
theorem OK.mP (k:OK pg w V ew st I ρ s)(D:ρ[n]? = some [a])(G:ba a s.heap h')(gv:∃C,h'.get? a=some C)(H:cY pg w I ρ h' o [a]):
  OK pg w V ew {st with ph:=st.ph.set n o} I ρ {s with heap:=h',toks:=tk}:=
 k.setAt D (λ b C B e=>(G.2 b λ q=>B (q▸.head _)).trans e) (λ b B=>aO.mp B▸gv) H
theorem pu.push {B:wl}:pu B (B++[as]):=λ n r e=>
 (cm (pR e)).trans e
theorem OK.new (k:OK pg w V ew st I ρ s)(G:Pi s.heap h')(pQ:∀a∈as,s.heap.objs.size<=a)(fS:as.Nodup)(gv:∀a∈as,∃B,h'.get? a=some B)(O:cY pg w I (ρ++[as]) h' o as):
  OK pg w V ew {st with ph:=st.ph++[o]} I (ρ++[as]) {s with heap:=h',toks:=tk}:=by
 have D:∀a,a<s.heap.objs.size->a∈(ρ++[as]).flatten->a∈ρ.flatten:=λ a C M=>(j0.mp M).elim id λ h=>absurd (pQ a h) (Nat.not_le.mpr C)
 refine⟨⟨λ a B e=>G _ _ (k.inv.lw a B e),?_,λ n B L e1 e2=>?_,?_,λ a C=>(j0.mp C).elim (λ h=>have⟨p,B,e⟩:=k.inv.out a h;⟨p,B,G _ _ e⟩) λ h=>⟨(dE k (pQ a h)).im,gv a h⟩⟩,
  (k.fr.mono (.refl _) pu.push (λ _ _ e=>e) D).grow G,k.gens,k.top,(k.No.mono (λ _ _ e=>e) D).grow G⟩
 .rw[aP,aP,k.inv.len];rfl
 .have H:=k.inv.len
  rcases AA e2 with⟨q,e2⟩|⟨q,e⟩
  .rcases AA e1 with⟨_,e1⟩|⟨z,_⟩
   .exact(k.inv.obj n B L e1 e2).mono _ _ (.refl _) pu.push λ a C B e=>G _ _ e
   .exact absurd (z.trans H.symm) (aS q)
  .rcases AA e1 with⟨z,_⟩|⟨_,N⟩
   .exact absurd (q.trans H) (aS z)
   .rw[e,N];exact O
 .rw[List.flatten_append,(jm),List.flatten_singleton];exact⟨k.inv.wv,fS,λ a C b J e=>(dE k (pQ b J)).gB (e▸C)⟩
theorem tP {C:wl}{B:List Addr}{n:Nat}(h:n=C.length):(C++[B])[n]? = some B:=h▸nB
theorem ZB.wG {Q:Value->ae->Prop}(k:OK pg w V ew st I ρ s)(C:o.isFreed=false)(D:cY pg w I (ρ++[[s.heap.objs.size]]) (s.heap.push o) po [s.heap.objs.size])
  (q:ZB pg w V ew {st with ph:=st.ph++[po]} (.ref st.ph.length) I ρ s Q):Q (.ref s.heap.objs.size) {s with heap:=s.heap.push o,toks:=tk}:=
 q _ _ _ _ (.refl _) pu.push (k.new (Pi.push _ _) (λ _ B=>dK (aO.mp B).symm) HY (λ _ B=>aO.mp B▸⟨_,cj _ C⟩) D) rfl (.ref (tP k.inv.len.symm))
theorem EJ.wX (D:am pg w V A ew es st al vs)(B:vs.length<=aH):EJ pg w V A ew (.List es pos) st {al with ph:=al.ph++[.list vs]} (.ref al.ph.length):=λ I J s Q E h q=>
 List_ (D.spliced h λ H G L C a b c d e=>by
  refine gN ?_ (by show C.toArray.size<=aH;rw[dJ,<-e.length];exact B);exact ZB.wG (po:=.list vs) c rfl ⟨_,C,0,rfl,cj _ rfl,e.mono (.refl _) pu.push⟩ (q.at a b d))
theorem VT.ref (C:st.ph[n]? = some (.list xs))(J:xs.length<2 ^ 62):VT pg w V A ew (.ref n) st (!xs.isEmpty):=λ _ _ _ _ _ _ k L q=>by
 apply bd;intro G;obtain⟨_,_,rfl,e⟩:=L.inv;obtain⟨B,M,D,r⟩:=k.inv.list C e;apply G;have H:(!(aM B).isEmpty) = !xs.isEmpty:=by cases r<;>rfl
 refine wpAny_truthy_list D.isList (wo r J) ?_
 .rw[H];exact q _ _ _ (.refl _) (.refl _) k.toks rfl
theorem on.ref {name:Str}{id:String}(G:st.ph[n]? = some (.list xs))(slot:Slot "list" name id)(D:typeOf (.builtin id)=aq (.type "method_descriptor")):on pg w V A ew (.ref n) st name id:=λ I N s Q E u L k H q=>by
 apply bd;intro J;obtain⟨_,_,rfl,e⟩:=H.inv;obtain⟨B,M,C,r⟩:=k.inv.list G e;apply J;exact getMethod_builtin ⟨_,C,rfl⟩ F.plainAttrs_list slot D (λ b e=>Value.ref.inj e▸⟨_,C,rfl⟩) q
theorem on.append (B:st.ph[n]? = some (.list xs)):on pg w V A ew (.ref n) st "append" "list.append":=on.ref B F.slot_list_append F.type_list_append
theorem on.pop (B:st.ph[n]? = some (.list xs)):on pg w V A ew (.ref n) st "pop" "list.pop":=on.ref B F.slot_list_pop F.type_list_pop
theorem on.clear (B:st.ph[n]? = some (.list xs)):on pg w V A ew (.ref n) st "clear" "list.clear":=on.ref B F.slot_list_clear F.type_list_clear
theorem lr {I:Im}{B:wl}{s:ae}{n:Nat}{xs:List PV}(k:OK pg w V ew st I B s)(H:st.ph[n]? = some (.list xs))(e:B[n]? = some (a::r)):r=[]/\∃items m,IsL s.heap a (aM items) m/\lm I B xs items:=by
 apply bd;intro L;obtain⟨M,items,J,C,G,D⟩:=k.inv.obj n _ _ H e;obtain⟨e1,e2⟩:x02:=List.cons.inj C;apply L;exact⟨e2,items,J,e1▸G,D⟩
theorem ds.append (J:st.ph[n]? = some (.list xs))(D:xs.length<=aH):ds pg w V A ew (.builtin "list.append") [.ref n,v] st {st with ph:=st.ph.set n (.list (xs++[v]))} .none:=λ I R s Q E T k jp q=>by
 apply bd;intro N;obtain⟨u,t,rfl,L,G⟩:=gq jp;obtain⟨_,_,rfl,e⟩:=L.inv;obtain⟨rfl,B,m,H,r⟩:x0222:=lr k J e;apply N;refine append_at H (λ O M C=>?_) (by rw[dJ,<-r.length];exact D);rw[List.push_toArray] at C;exact q _ _ _ _ (.refl _) (.refl _) (k.mP (tk:=s.toks) e M ⟨_,C⟩ ⟨_,_,_,rfl,C,r.append (.cons G .nil)⟩) rfl .none
theorem ds.pop (N:st.ph[n]? = some (.list (xs++[v])))(G:xs.length<aH):ds pg w V A ew (.builtin "list.pop") [.ref n] st {st with ph:=st.ph.set n (.list xs)} v:=λ I U s Q E Y k jp q=>by
 apply bd;intro H;obtain⟨u,rfl,O⟩:=cz jp;obtain⟨ad,_,rfl,e⟩:=O.inv;obtain⟨rfl,B,m,D,r⟩:x0222:=lr k N e;have C:B.length=xs.length+1:=by rw[<-r.length,aP];rfl
 obtain⟨y,R,M⟩:=r.get (i:=xs.length) (x:=v) nB;apply H;have sY:(aM B)[(aM B).size - 1]? = some y:=by
  simpa [C] using R
 have zX:(aM B).size<=aH:=by rw[dJ,C];exact G
 refine call_meets F.slot_list_pop ⟨_,D,rfl⟩ F.entry_list_pop (F.args_list_pop_1 _) (MeetsSeq.list_pop_last _ _ m y sY zX) ⟨D,?_⟩;have T:(aM B).eraseIdxIfInBounds ((aM B).size - 1)=aM (B.take xs.length):=by
  apply Array.ext';rw[Array.toList_eraseIdxIfInBounds]
  simp[C]
  rw[List.eraseIdx_eq_take_drop_succ,List.drop_eq_nil_of_le (dK C),nC]
 apply bd;intro H;obtain⟨L,J⟩:∃L,(s.heap.update ad (Obj.mapSeq λ xs=>xs.eraseIdxIfInBounds ((aM B).size - 1))).get? ad=some {cls:=.type "list",data:=.seq (aM (B.take xs.length)) L}:=by
  have:=eG (Obj.mapSeq λ xs=>xs.eraseIdxIfInBounds ((aM B).size - 1)) D rfl;rw[this];simp only[Obj.mapSeq,T];exact⟨_,rfl⟩
 apply H;refine q _ _ _ _ (.refl _) (.refl _) (k.mP (tk:=s.toks) e (gf ..) ⟨_,J⟩ ⟨_,_,_,rfl,J,?_⟩) rfl M;have:=r.take xs.length
 rwa [List.take_left] at this
theorem ds.clear (L:st.ph[n]? = some (.list xs))(D:xs.length<=aH):ds pg w V A ew (.builtin "list.clear") [.ref n] st {st with ph:=st.ph.set n (.list [])} .none:=λ I N s Q E O k jp q=>by
 apply bd;intro G;obtain⟨u,rfl,M⟩:=cz jp;obtain⟨ad,_,rfl,e⟩:=M.inv;obtain⟨rfl,B,m,C,r⟩:x0222:=lr k L e;apply G;have zX:(aM B).size<=aH:=by rw[dJ,<-r.length];exact D
 refine call_meets F.slot_list_clear ⟨_,C,rfl⟩ F.entry_list_clear (F.args_list_clear_1 _) (AutoSeq1.list_clear_list_0 _ _ m zX) ⟨C,?_⟩;apply bd;intro G;obtain⟨J,H⟩:∃J,(s.heap.update ad (Obj.mapSeq λ _=>#[])).get? ad=some {cls:=.type "list",data:=.seq (aM []) J}:=by
  have:=eG (Obj.mapSeq λ _=>#[]) C rfl;rw[this];simp only[Obj.mapSeq];exact⟨_,rfl⟩
 apply G;exact q _ _ _ _ (.refl _) (.refl _) (k.mP (tk:=s.toks) e (gf ..) ⟨_,H⟩ ⟨_,_,_,rfl,H,.nil⟩) rfl .none
section
theorem iX.drop {B:wl}:iX B.length (B++[as]) B:=λ _ _ l e=>(cm l).symm.trans e
theorem ce.lower (h:ce I (ρ++[as]) x v)(l:PV.lt ρ.length x):ce I ρ x v:=(ce.g8 (nw.refl I).seq iX.drop).1 h l
theorem lm.lower (h:lm I (ρ++[as]) x v)(l:PV.TD ρ.length x):lm I ρ x v:=(ce.g8 (nw.refl I).seq iX.drop).2.1 h l
theorem cY.lower (H:cY pg w I (ρ++[bs]) h o as)(l:PO.lt ρ.length o):cY pg w I ρ h o as:=H.map (nw.refl I).seq iX.drop (λ _ _ _ e=>e) l
theorem Do.TD (H:Do pg w I ρ ph h):∀o∈ph,PO.lt ρ.length o:=λ o D=>by
 obtain(⟨n,B,rfl⟩):=List.getElem_of_mem D;have C:n<ρ.length:=by rw[H.len];exact B
 exact(H.obj n _ (ρ[n]) (dc B) (dc C)).lt
theorem Do.seal (H:Do pg w I (ρ++[[D]]) (ph++[.list xs]) h)(G:ρ.length=ph.length)(gV:∀o∈ph,PO.lt ρ.length o)(qp:PV.TD ρ.length xs):
  ∃C,Do pg w (I.put D C) ρ ph h/\I D=none/\ce (I.put D C) ρ (.lst xs) (.ref D):=by
 obtain⟨B,n,R,T⟩:=H.list (by rw[G];exact nB) nB;have N:I D=none:=(H.out D (j0.mpr (.inr (.head _)))).1;have M:=Mine.Fa (o:={cls:=.type "list",data:=.seq (aM B) n}) N;have nd:=H.wv;rw[List.flatten_append,jm,List.flatten_singleton] at nd;refine⟨_,⟨λ b C e=>?_,G,λ m o O e1 e2=>?_,nd.1,λ b J=>?_⟩,N,.lst Im.XV ((T.lower qp).mono M (.refl _))⟩
 .by_cases q:b=D
  .subst q;exact R.trans (Im.XV.symm.trans e)
  .exact H.lw b C ((Im.jR q).symm.trans e)
 .have L:=pR e2;exact((H.obj m o O ((cm (G▸L)).trans e1) ((cm L).trans e2)).lower (gV o (eX e1))).mono _ _ M (.refl _) λ _ _ _ e=>e
 .obtain⟨p,r⟩:x02:=H.out b (j0.mpr (.inl J));exact⟨(Im.jR λ q=>nd.2.2 b J D (.head _) q).trans p,r⟩
noncomputable def b9 (pg:aK)(w:aA)(V:Im)(A:aD)(ew:aB):List aF->PS->PS->Bool->Prop
 | [],st,bv,b=>bv=st/\b=true
 |c::cs,st,bv,b=>∃al x,TJ pg w V A ew c st al x/\if x then b9 pg w V A ew cs al bv b else bv=al/\b=false
theorem XF {B:List aF}{s:ae}{Q:Bool->ae->Prop}(q:Q false s):
  ag (af pg w) A (forIn B false λ c r=>if r=true then do let ok <-isTrue c ew (eval c ew);aq (pn ok) else aq (pn r)) Q E s:=by
 induction B with
 |nil=>exact ah q
 |cons c B C=>
  rw[lN];refine aa ?_;refine da (decide_eq_false (by decide)) ?_;exact ah C
theorem b9.run:∀{st bv:PS}{b I B s Q E},b9 pg w V A ew C st bv b->OK pg w V ew st I B s->gx pg w V ew bv I B s (Q b) ->
  ag (af pg w) A (forIn C true λ c r=>if r=true then do let ok <-isTrue c ew (eval c ew);aq (pn ok) else aq (pn r)) Q E s:=by
 induction C with
 |nil=>
  intro st bv b I B s Q E h k q;obtain⟨rfl,rfl⟩:x02:=h;exact ah (q _ _ _ (.refl _) (.refl _) k rfl)
 |cons c C M=>
  intro st bv b I B s Q E h k q;obtain⟨al,x,N,L⟩:=h;rw[lN];refine aa ?_;refine iF (decide_eq_true rfl) ?_;refine aa (N _ _ _ _ _ k λ R O T G D H J=>ah ?_)
  cases x with
  |true=>exact M L H (q.at G D J)
  |false=>
   obtain⟨rfl,rfl⟩:x02:=L;exact XF (q _ _ _ G D H J)
noncomputable def Gc (step:PV->PS->PS->Prop)(Hd:List PO->Prop):List PV->PS->PS->Prop
 | [],st,bv=>Hd st.ph/\bv=st
 |x::xs,st,bv=>Hd st.ph/\∃lv,step x st lv/\Gc step Hd xs lv bv
noncomputable def nQ (pg:aK)(w:aA)(V:Im)(A:aD)(ew:aB)(elt:aF)(n:Nat)(bi lv:PS):Prop:=
 ∃cG v ys,EJ pg w V A ew elt bi cG v/\cG.ph[n]? = some (.list ys)/\ys.length<=aH/\lv={cG with ph:=cG.ph.set n (.list (ys++[v]))}
noncomputable def Hk (pg:aK)(w:aA)(V:Im)(A:aD)(ew:aB)(em:PS->PS->Prop)(go:(List PO->Prop)->List PV->PS->PS->Prop)(bi lv:PS):Bool->List gg->Prop
 |false,_=>lv=bi
 |true,[]=>em bi lv
 |true,c'::_=>∃cG u zs fW,EJ pg w V A ew c'.iter bi cG u/\rc pg w V A ew u cG zs fW/\(∀x,iD c'.iter ew x=aq x)/\go fW zs cG lv
def YD (pg:aK)(w:aA)(V:Im)(A:aD)(ew:aB)(em:PS->PS->Prop)(c:gg)(go:(List PO->Prop)->List PV->PS->PS->Prop)(rest:List gg)(x:PV)(st lv:PS):Prop:=
 ∃al bi b,AJ pg w V A ew c.target x st al/\b9 pg w V A ew c.ifs al bi b/\Hk pg w V A ew em go bi lv b rest
noncomputable def nT (pg:aK)(w:aA)(V:Im)(A:aD)(ew:aB)(em:PS->PS->Prop)(Hd:List PO->Prop):List gg->List PV->PS->PS->Prop
 | []=>λ _ _ _=>False
 |c::rest=>λ xs st bv=>c.is_async=0/\Gc (YD pg w V A ew em c (λ fW=>nT pg w V A ew em fW rest) rest) Hd xs st bv
noncomputable abbrev wf (pg:aK)(w:aA)(V:Im)(A:aD)(ew:aB)(elt:aF)(n:Nat)(Hd:List PO->Prop)(l:List gg)(xs:List PV)(st bv:PS):Prop:=nT pg w V A ew (nQ pg w V A ew elt n) Hd l xs st bv
section
variable {elt target iter:aF}{ifs:List aF}{n:Nat}{Hd:List PO->Prop}{rest:List gg}{x:PV}{xs:List PV}{cG fM:PS}
theorem wf.done (h:Hd st.ph):wf pg w V A ew elt n Hd (⟨target,iter,ifs,0⟩:: rest) [] st st:=And.intro rfl ⟨h,rfl⟩
theorem wf.skip (h:Hd st.ph)(B:AJ pg w V A ew target x st al)(hi:b9 pg w V A ew ifs al bi false)(C:wf pg w V A ew elt n Hd (⟨target,iter,ifs,0⟩:: rest) xs bi lv):
  wf pg w V A ew elt n Hd (⟨target,iter,ifs,0⟩:: rest) (x::xs) st lv:=And.intro rfl ⟨h,_,⟨_,_,false,B,hi,rfl⟩,C.2⟩
theorem wf.emit (h:Hd st.ph)(D:AJ pg w V A ew target x st al)(hi:b9 pg w V A ew ifs al bi true)(H:EJ pg w V A ew elt bi lv v)(G:lv.ph[n]? = some (.list ys))(C:ys.length<=aH)
  (B:wf pg w V A ew elt n Hd [⟨target,iter,ifs,0⟩] xs {lv with ph:=lv.ph.set n (.list (ys++[v]))} cG):wf pg w V A ew elt n Hd [⟨target,iter,ifs,0⟩] (x::xs) st cG:=
 And.intro rfl ⟨h,_,⟨_,_,true,D,hi,_,_,_,H,G,C,rfl⟩,B.2⟩
theorem wf.nest {fW BH tD yN}(h:Hd st.ph)(D:AJ pg w V A ew target x st al)(hi:b9 pg w V A ew ifs al bi true)(H:EJ pg w V A ew tD bi lv u)(B:rc pg w V A ew u lv zs fW)
  (C:∀x,iD tD ew x=aq x) (G:wf pg w V A ew elt n fW (⟨BH,tD,yN,0⟩:: rest) zs lv cG) (J:wf pg w V A ew elt n Hd (⟨target,iter,ifs,0⟩:: ⟨BH,tD,yN,0⟩:: rest) xs cG fM):
  wf pg w V A ew elt n Hd (⟨target,iter,ifs,0⟩:: ⟨BH,tD,yN,0⟩:: rest) (x::xs) st fM:=And.intro rfl ⟨h,_,⟨_,_,true,D,hi,_,_,_,_,H,B,C,G⟩,J.2⟩
end
end
section
theorem GC {α:Type}{l:List α}{d:Nat}{x:α}{r:List α}(h:l.drop d=x::r):l[d]? = some x/\l.drop (d+1)=r:=by
 exact⟨jS h,by rw[<-List.drop_drop,h];rfl⟩
inductive CK where
 |lst (elt:aF)
 |dct (k v:aF)
noncomputable def CK.ex (ck:CK)(gens:List gg)(scope:Scope)(pos:Pos):aF:=match ck with
 | .lst elt=>.ListComp elt gens scope pos
 | .dct k v=>.DictComp k v gens scope pos
theorem CK.clauses {ck:CK}:clausesOf (ck.ex gens scope pos)=gens:=by cases ck<;>rfl
noncomputable def CK.emit (ck:CK)(acc:Value)(ew:aB):Sem Unit:=match ck with
 | .lst elt=>(do let _ <-call (.builtin "list.append") [acc,<-eval elt ew])
 | .dct k v=>(do
  let kv <-eval k ew
  let vv <-holding [kv] (eval v ew)
  match acc with
  | .ref d=>do
   dv {k.pos with endLine:=v.pos.endLine,endCol:=v.pos.endCol}
   holding [kv,vv] (dictSet d kv vv)
  |_=>unsupported "internal:dictcomp")
theorem IY {ck:CK}{d:Nat}{it D:Addr}{o:Obj}{s:ae}{R:Result->ae->Prop}(C:gens[d]? = some ⟨t,iter,ifs,0⟩)(B:oP pg w o)(H:s.heap.get? it=some o)
  (h:codeAny (af pg w) A (.compLoop (ck.ex gens scope pos) d (.ref it) (.ref D) ew) R s):codeAny (af pg w) A (.compStart (ck.ex gens scope pos) d (.ref it) (.ref D) ew) R s:=by
 refine codeAny_of_tree ?_;have e:(af pg w).den (.compStart (ck.ex gens scope pos) d (.ref it) (.ref D) ew)=(compStart (ck.ex gens scope pos) d (.ref it) (.ref D) ew).onRaise (λ x=>do noteFrame x ew;dv theWindowsPlace):=by cases ck<;>rfl
 rw[e];refine wpAny_notedAt ?_;unfold compStart;have G:(clausesOf (ck.ex gens scope pos))[d]? = some ⟨t,iter,ifs,0⟩:=CK.clauses▸C;rw[G];show ag _ _ (ask >>= _) _ _ s;refine aa (wpAny_askSetting (wpAny_ite ?_))
 split
 .first
   |exact aa (ah (ah (And.intro rfl h)))
   |exact ah (And.intro rfl h)
 .refine aa (fE (aa (a9 (aa (B _ _ _ _ _ H ?_)))));exact ah (And.intro rfl h)
noncomputable def m9 (ck:CK)(gens:List gg)(scope:Scope)(pos:Pos)(d:Nat)(it acc:Value)(ew:aB)(ok:Bool):Sem Fin:=do
 if ok then
  match gens[d+1]? with
  |some g'=>
   let x <-eval g'.iter ew
   dv g'.iter.pos
   let x <-if g'.is_async != 0 then foldedIterable g'.iter x else iD g'.iter ew x
   let _ <-runOwn (.compStart (ck.ex gens scope pos) (d+1) (<-holding [x] (if g'.is_async != 0 then asyncIter x else pyIter x)) acc ew) ew
  |none=>ck.emit acc ew
 again (.compLoop (ck.ex gens scope pos) d it acc ew)
theorem OQ {ck:CK}{d:Nat}(B:gens[d]? = some ⟨t,iter,ifs,0⟩):compTurn (ck.ex gens scope pos) d it acc ew=(do
  dv iter.pos
  match <-pyNext it with
  |none=>aq (.done .next)
  |some v=>
   j3 t it v
   assign t ew v
   let ok <-forIn ifs true λ c r=>if r=true then do let ok <-isTrue c ew (eval c ew);aq (pn ok) else aq (pn r)
   m9 ck gens scope pos d it acc ew ok):=by
 unfold compTurn CK.ex
 cases ck<;>(dsimp only;rw[B];rfl)
def n7 (pg:aK)(w:aA)(A:aD)(ew:aB)(ck:CK)(gens:List gg)(scope:Scope)(pos:Pos)(d:Nat)(it acc:Value)(R:Result->ae->Prop)(s:ae):Prop:=
 codeAny (af pg w) A (.compLoop (ck.ex gens scope pos) d it acc ew) R s
def vT (pg:aK)(w:aA)(A:aD)(R:Result->ae->Prop)(f:Fin)(s:ae):Prop:=match f with
 | .done f=>R (.ok f) s
 | .again c=>c.quiet=true/\codeAny (af pg w) A c R s
section
variable {ck:CK}{gens:List gg}{scope:Scope}{pos:Pos}{it:Value}{d n:Nat}{R:Result->ae->Prop}{s:ae}{D:Addr}{st al bi lv:PS}{I:Im}{ρ:wl}{c:gg}{rest:List gg}
theorem EW (G:gens[d]? = some c)(h0:c.is_async=0)
  (h:∀E,ag (af pg w) A (pyNext it) (λ r B=>match r with
   |none=>R (.ok .next) B
   |some v=>ag (af pg w) A (j3 c.target it v) (λ _ B=>ag (af pg w) A (assign c.target ew v) (λ _ H=>
     ag (af pg w) A (forIn c.ifs true λ c r=>if r=true then do let C <-isTrue c ew (eval c ew);aq (pn C) else aq (pn r)) (λ C L=>
      ag (af pg w) A (m9 ck gens scope pos d it acc ew C) (vT pg w A R) E L) E H) E B) E B) E s):n7 pg w A ew ck gens scope pos d it acc R s:=by
 refine codeAny_of_tree ?_;have e:(af pg w).den (.compLoop (ck.ex gens scope pos) d it acc ew)=(compTurn (ck.ex gens scope pos) d it acc ew).onRaise (λ x=>do noteFrame x ew;theTreesLotGoes x):=by cases ck<;>rfl
 have e2:A.under (.compLoop (ck.ex gens scope pos) d it acc ew)=A:=by cases ck<;>rfl
 rw[e,e2];refine wpAny_noted ?_;apply bd;intro J;obtain(⟨t,iter,M,a⟩):=c;apply J;dsimp only at h0;subst h0;rw[OQ G];refine aa (a9 (aa (eY (h _) (λ r B h=>?_) λ _ _ h=>h)))
 cases r with
 |none=>exact ah h
 |some v=>exact aa (eY h (λ _ _ h=>aa (eY h (λ _ _ h=>aa (eY h (λ _ _ h=>eY h (λ f _ h=>by cases f<;>exact h) λ _ _ h=>h) λ _ _ h=>h)) λ _ _ h=>h)) λ _ _ h=>h)
def oD (pg:aK)(w:aA)(V:Im)(A:aD)(ew:aB)(st:PS)(I:Im)(ρ:wl)(s:ae)(G:ae->Prop):Prop:=
 ∀{I' ρ' s'},nw I I'->pu ρ ρ'->OK pg w V ew st I' ρ' s'->s'.os=s.os->G s'
structure qs (pg:aK)(w:aA)(V:Im)(A:aD)(ew:aB)(ck:CK)(em:PS->PS->Prop)(n:Nat):Prop where
 run:∀{st lv I ρ s D E}{Q:ae->Prop},em st lv->OK pg w V ew st I ρ s->ρ[n]? = some [D]->oD pg w V A ew lv I ρ s Q->ag (af pg w) A (ck.emit (.ref D) ew) (λ _=>Q) E s
theorem nQ.run:qs pg w V A ew (.lst elt) (nQ pg w V A ew elt n) n:=⟨λ{st lv I ρ s D E Q} h k j go=>by
 apply bd;intro U;obtain⟨cG,v,q,g,eM,B,rfl⟩:=h;apply U;exact aa (g _ _ _ _ _ k λ m C L u f G H J T=>aa (ds.append eM B m C L _ _ [.ref D,u] H (.cons (.ref (G _ _ j)) (.cons T .nil)) λ o N p _ Y M Z O _=>
  ah (go (f.trans Y) (G.trans M) Z (O.trans J))))⟩
theorem T5 (H:qs pg w V A ew ck em n)(C:em st lv)(B:gens.drop (d+1)=[])(k:OK pg w V ew st I ρ s)(G:ρ[n]? = some [D])
  (go:oD pg w V A ew lv I ρ s (n7 pg w A ew ck gens scope pos d it (.ref D) R)):ag (af pg w) A (m9 ck gens scope pos d it (.ref D) ew true) (vT pg w A R) E s:=by
 unfold m9;rw[if_pos rfl,show gens[d+1]? = none by rw[<-List.head?_drop,B];rfl];exact aa (H.run C k G λ a b c d=>ah ⟨rfl,go a b c d⟩)
theorem PQ {fW}(hh:A.handled=none)(he:EJ pg w V A ew c.iter st al u)(J:rc pg w V A ew u al zs fW)(Vx:∀x,iD c.iter ew x=aq x)(Y:gens[d+1]? = some c)(h0:c.is_async=0)(k:OK pg w V ew st I ρ s)
  (go:oD pg w V A ew lv I ρ s (n7 pg w A ew ck gens scope pos d it (.ref D) R))
  (q:∀{it M B s'}{R:Result->ae->Prop},pu ρ B->OK pg w V ew al M B s'->jI pg w V A ew fW c.target it zs al M B s'->oD pg w V A ew lv M B s' (R (.ok .next))->n7 pg w A ew ck gens scope pos (d+1) it (.ref D) R s'):
  ag (af pg w) A (m9 ck gens scope pos d it (.ref D) ew true) (vT pg w A R) E s:=by
 unfold m9;rw[if_pos rfl,Y];dsimp only;refine aa (he _ _ _ _ _ k λ Z G C N a6 Q H r y=>aa (a9 ?_));rw[h0,if_neg (by decide)];refine aa (jk (Vx N) (aa (aQ ?_)));rw[if_neg (by decide)];refine J Z G C _ _ N H y λ H' j tk o Rl nN L zh=>?_
 have O:=dE H (aJ C.heap.objs.size);have dR:=cj C.heap L;have T:OK pg w V ew al Z G {C with heap:=C.heap.push j,toks:=tk}:=(H.grow (.push _ _)).toks;have qm:A.mark none=A:=rfl;refine aa (wpAny_runOwn (h:=none) ?_);rw[qm];apply bd;intro nk;obtain(⟨t,i,f,z⟩):=c;apply nk;dsimp only at h0;subst h0;exact IY Y zh dR (q Q T (Rl.feed hh (H.zero O.im) nN dR O o T) λ X m g p=>ah ⟨rfl,go (a6.trans X) (Q.trans m) g (p.trans r)⟩)
theorem VW {EI}(H:qs pg w V A ew ck em n)(Q:rest≠[]->A.handled=none)(J:Hk pg w V A ew em EI st lv b rest)(N:gens.drop (d+1)=rest)(k:OK pg w V ew st I ρ s)(T:ρ[n]? = some [D])
  (go:oD pg w V A ew lv I ρ s (n7 pg w A ew ck gens scope pos d it (.ref D) R))
  (C:∀{c r fW M al},rest=c::r->EI fW M al lv->c.is_async=0/\∀{it G B s'}{R:Result->ae->Prop},pu ρ B->OK pg w V ew al G B s'->jI pg w V A ew fW c.target it M al G B s'->oD pg w V A ew lv G B s' (R (.ok .next))->n7 pg w A ew ck gens scope pos (d+1) it (.ref D) R s'):
  ag (af pg w) A (m9 ck gens scope pos d it (.ref D) ew b) (vT pg w A R) E s:=by
 cases b with
 |false=>
  unfold m9;rw[if_neg (by decide)];exact ah ⟨rfl,go (.refl _) (.refl _) (J▸k) rfl⟩
 |true=>
  cases rest with
  |nil=>exact T5 H J N k T go
  |cons f rest=>
   obtain⟨cG,u,M,fW,Z,L,Y,U⟩:x4203:=J;obtain⟨O,C⟩:x02:=C rfl U;exact PQ (Q (pq _ _)) Z L Y (jS N) O k go C
theorem Xt (H:qs pg w V A ew ck em n):∀{cl Hd xs st bv d it I ρ s c rest}{R:Result->ae->Prop},(cl.drop 1≠[]->A.handled=none)->nT pg w V A ew em Hd cl xs st bv ->
  cl=c::rest->gens.drop d=cl->OK pg w V ew st I ρ s->ρ[n]? = some [D]->jI pg w V A ew Hd c.target it xs st I ρ s ->
  oD pg w V A ew bv I ρ s (R (.ok .next))->n7 pg w A ew ck gens scope pos d it (.ref D) R s:=by
 intro cl
 induction cl with
 |nil=>exact λ _ J=>J.elim
 |cons c rest ih=>
  intro Hd xs
  induction xs with
  |nil=>
   intro st bv d it I ρ s _ _ R N J Y B ok M O C;obtain⟨rfl,rfl⟩:x02:=List.cons.inj Y;exact EW (jS B) J.1 λ E=>O J.2.1 _ _ λ s' k d=>C (.refl _) (.refl _) (J.2.2▸k) d
  |cons x xs UI=>
   intro st bv d it I ρ s _ _ R N J Y B ok M O C;apply bd;intro nk;obtain⟨rfl,rfl⟩:x02:=List.cons.inj Y;obtain⟨Z,hd,lv,⟨al,bi,b,ha,u,hb⟩,J⟩:x0312:=J;apply nk;exact EW (jS B) Z λ E=>O hd _ _ λ v s1 o=>o _ _ λ I2 s2 a2 X d2 hv L=>ha _ _ _ _ _ _ X hv λ I4 ρ4 s4 a4 T m y=>u.run m λ I5 ρ5 s5 a5 U q d5=>
    VW H N hb (GC B).2 q ((T.trans U) _ _ M) (λ z G k6 r=>
     have G:=(T.trans U).trans G;have⟨I7,l7,p,f7⟩:=L _ _ _ _ ((a4.trans a5).trans z) G k6
     UI N (And.intro Z J) rfl B p (G _ _ M) f7 λ q1 q2 q3 q4=>C (l7.trans q1) (G.trans q2) q3 (q4.trans (r.trans ((d5.trans y).trans d2))))
     λ Q g=>⟨by subst Q;exact g.1,λ j k f C=>ih (λ hr=>N λ e=>hr (by show List.drop 1 rest=[];rw[show rest=[] from e];rfl)) g Q (GC B).2 k (j _ _ ((T.trans U) _ _ M)) f C⟩
end
end
theorem WM {C B:wl}(h:pu C B)(D:B.length=C.length):B=C:=by
 apply List.ext_getElem?;intro n
 rcases Nat.lt_or_ge n C.length with q|q
 .rw[dc q];exact h n _ (dc q)
 .rw[lG q,lG (D▸q)]
theorem Im.Fh {I B:Im}(h:I a=none):I.fh B ew a=none:=by unfold Im.fh;rw[h];exact ite_self _
theorem OK.xq (k:OK pg w V ew st I ρ s)(h:∀p∈fs,p∈st.fs):OK pg w V ew {st with fs:=fs} I ρ s:=⟨k.inv,k.fr,k.gens,k.top,λ p B=>k.No p (h p B)⟩
structure P3 (ew:aB)(scope:Scope)(cl:List (Str×Addr))(loc ge:List (Str×PV)):Prop where
 clos:closureFor scope ew=aq cl
 cell:∀y∈scope.names,y.2≠.cell
 kind:scope.kind = .function
 names:∀y∈scope.names,y.2 = .local->scope.names.lookup y.1=some .local
 sub:∀x c,cl.lookup x=some c->ew.cells.lookup x=some c
 le:aw ge loc
 out:∀x v,ge.lookup x=some v->(ew.kindOf x=some .cell\/ew.kindOf x=some .free)/\(relabel scope ew).names.lookup x≠some .local
structure xJ (pg:aK)(w:aA)(newAcc:Sem Value)(o:PO)(ob:Obj):Prop where
 fr:ob.isFreed=false
 new:∀A Q E s,Q (.ref s.heap.objs.size) {s with heap:=s.heap.push ob}->ag (af pg w) A newAcc Q E s
 rep:∀I ρ h a,h.get? a=some ob->cY pg w I ρ h o [a]
theorem Jk:xJ pg w (newList []) (.list []) {cls:=.type "list",data:=.seq (aM [])}:=
 ⟨rfl,λ A Q E s q=>gN q,λ I B h a e=>⟨a,[],0,rfl,e,.nil⟩⟩
theorem Ux {qL}(AC:xJ pg w na o0 qL){ge}{C D:Addr}{m:Str->Option Value}(B:P3 ew scope cl st.loc ge)(k:OK pg w V ew st I ρ s)(L:Pi s.heap h₁)(T:s.heap.objs.size<=D)(R:s.heap.objs.size<=C)(TU:C≠D)
  (U:h₁.get? D=some qL) (J:h₁.Ns C m) (j:pU ew s.heap d):
  OK pg w V (dM scope cl C ew) ⟨ge,st.ph++[o0],(ew.locals,d)::st.fs⟩ (I.frozen ew h₁) (ρ++[[D]]) {s with heap:=h₁,toks:=tk}:=by
 have H:OK pg w V ew {st with ph:=st.ph++[o0]} I (ρ++[[D]]) {s with heap:=h₁,toks:=tk}:=
  k.new L (λ a N=>aO.mp N▸T) HY (λ a N=>aO.mp N▸⟨_,U⟩) (AC.rep _ _ _ _ U)
 have G:=dE k R;have O:=dE k T;have kU:nw I (I.frozen ew h₁):=IO.tR k.inv L;have L9:∀{x},cl.lookup x=some C->False:=λ e=>G.fr (.inr ⟨_,B.sub _ C e⟩)
 refine⟨H.inv.frozen H.fr (Pi.refl _),⟨⟨_,J,λ x v e l=>absurd l (B.out x v e).2⟩,λ x c e=>?_,⟨(Im.mn λ q=>G.fr (.inr q)).trans G.im,λ M=>(j0.mp M).elim G.gB λ q=>TU (aO.mp q)⟩,
  λ x c e=>⟨(λ b=>nomatch b),(H.fr.cout x c (B.sub x c e)).2.1,λ h=>L9 (h▸e)⟩,λ x y c e1 e2=>k.fr.apart x y c (B.sub x c e1) (B.sub y c e2)⟩,k.gens,k.top.trans kU,λ p Y=>?_⟩
 .obtain⟨Q,u,r⟩:=H.fr.cell x c (B.sub x c e);exact⟨Q,u,λ v Z _=>by obtain⟨o,E,X⟩:=r v (B.le x v Z) (B.out x v Z).1;exact ⟨o,E,X.mono kU (.refl _)⟩⟩
 .obtain⟨i,t,r3,g⟩:x04:=k.ET (fw:=dM scope cl C ew) L j (λ a n=>n.elim (λ e=>.inl (e▸R)) λ⟨x,e⟩=>.inr ⟨x,B.sub x a e⟩) p Y;exact⟨i,t,λ M=>(j0.mp M).elim r3 λ q=>(aG.mp Y).elim (λ z=>O.fr (.inl (by rw[<-aO.mp q,z]))) λ z=>O.fs (aO.mp q▸nr (f:=(·.1)) z),g⟩
theorem Qw {ln}{C D:Addr}(k:OK pg w V ew st I ρ s)(M:Pi s.heap h₁)(Q:pU ew s.heap d)(Z:s.heap.objs.size<=C)(k5:OK pg w V (dM scope cl C ew) ⟨ln,st.ph++[o1],(ew.locals,d)::st.fs⟩ I5 ρ5 s5)
  (N:nw (I.frozen ew h₁) I5) (L:pu (ρ++[[D]]) ρ5):∃J,OK pg w V ew {st with ph:=st.ph++[o1],fs:=(C,J)::st.fs} (I5.fh I ew) (ρ++[[D]]) s5/\nw I (I5.fh I ew)/\∃m,s5.heap.Ns C m:=by
 have B:ρ5=ρ++[[D]]:=WM L (by rw[aP,k5.inv.len,k.inv.len];exact aP);subst B;apply bd;intro Y;obtain⟨i9,lu,wL⟩:x03:=k.back M Q N (pu.push) k5.inv k5.gens k5.No;obtain⟨m,⟨H,T,R,xB,U,O⟩,_⟩:=k5.fr.ns;apply Y;refine⟨H.data,⟨i9.inv,i9.fr,i9.gens,i9.top,λ p G=>?_⟩,lu,m,H,T,R,xB,U,O⟩
 rcases aG.mp G with rfl|G
 .exact⟨⟨H,xB,rfl⟩,Im.Fh k5.fr.bt.1,k5.fr.bt.2,(dE k Z).fr⟩
 .exact i9.No p G
theorem AD {NH:aD->Prop}{ck:CK}{em:aB->PS->PS->Prop}{qL}(Y:xJ pg w na o0 qL)(HE:∀ew,qs pg w V A ew ck (em ew) al.ph.length){ge ln}{use:Option (Value->Sem Unit)}{Q:Value->ae->Prop}(hN:NH A)(hh:rest≠[]->A.handled=none)(M:P3 ew scope cl al.loc ge)
  (T:EJ pg w V A ew iter st al v) (h2:sh NH pg w V A ew v al xs Hd)
  (h3:∀C d,(∀vs,d≠Data.fields vs)->nT pg w V A (dM scope cl C ew) (em (dM scope cl C ew)) Hd (⟨target,iter,ifs,0⟩:: rest) xs ⟨ge,al.ph++[o0],(ew.locals,d)::al.fs⟩ ⟨ln,al.ph++[o1],(ew.locals,d)::al.fs⟩)
  (hs:∀x,iD iter ew x=aq x)
   (k:OK pg w V ew st I ρ s)
  (q:∀U B T R s' D C d,nw I R->pu ρ B->Do pg w U B al.ph T->IO ew al.loc U B T->OK pg w V ew {al with ph:=al.ph++[o1],fs:=(C,d)::al.fs} R (B++[[D]]) s'->s'.os=s.os->(∃m,s'.heap.Ns C m)->C∉al.fs.map (·.1)->compPost (af pg w) A E use Q (.ref D) C (.ok .next) s'):
  ag (af pg w) A (comprehension (ck.ex (⟨target,iter,ifs,0⟩:: rest) scope pos) scope ew pos' na false (eval iter ew) use) Q E s:=by
 refine wpAny_comprehension_free CK.clauses hs M.clos M.kind M.names (T _ _ _ _ _ k λ U B L u a1 b1 J d1 hu=>h2 _ _ _ _ _ _ J hu λ H o tk hH Z nN f zh=>?_);refine Y.new _ _ _ _ (wpAny_newFunctionEnv M.cell (λ _ hy=>nomatch hy) (λ G xi w3=>?_) M.kind);dsimp only at xi w3 ⊢;have vD:L.heap.objs.size+1=(L.heap.push o).objs.size:=(Heap.size_push ..).symm;generalize y:(L.heap.push o).objs.size=D at xi w3 vD ⊢;generalize wC:(L.heap.push o).push qL=H2 at xi w3 ⊢;have AO:D+1=H2.objs.size:=by rw[<-wC,Heap.size_push,y]
 have wZ:Pi H2 G:=λ a X e=>w3.extBut a X (aS (bP e)) (bH _ e)
 have IE:H2.get? L.heap.objs.size=some o:=by rw[<-wC];exact bH _ (cj _ f)
 have gD:H2.get? D=some qL:=by rw[<-wC,<-y];exact cj _ Y.fr
 have j:Pi L.heap G:=λ a X e=>wZ _ _ (by rw[<-wC];exact bH _ (bH _ e))
 have z:L.heap.objs.size<=D:=Nat.le_of_succ_le (dK vD);have g:L.heap.objs.size<=H2.objs.size:=av z (Nat.le_of_succ_le (dK AO));apply bd;intro p;obtain⟨d,hZ,Ay⟩:=J.fr.HS;apply p;have r:=Ux Y (tk:=tk) M J j z g (eF (Nat.lt_of_succ_le (dK AO))) (wZ _ _ gD) xi hZ;have N:=dE J (aJ _);have nD:L.heap.objs.size≠D:=aS (Nat.lt_of_succ_le (dK vD));have SU:Sc (dM scope cl H2.objs.size ew) ⟨ge,al.ph++[o0],(ew.locals,d)::al.fs⟩ (U.frozen ew G) (B++[[D]]) L.heap.objs.size:=
  ⟨(Im.mn λ q=>N.fr (.inr q)).trans N.im,λ O=>(j0.mp O).elim N.gB λ q=>nD (aO.mp q),λ qa=>qa.elim (aS (gb (Nat.lt_of_succ_le (dK vD)) (Nat.le_of_succ_le (dK AO)))) λ⟨x,e⟩=>N.fr (.inr ⟨x,M.sub x _ e⟩),
   λ O=>(aG.mp O).elim (λ q=>N.fr (.inl q)) N.fs⟩
 refine IY (t:=target) (iter:=iter) (ifs:=ifs) rfl zh (wZ _ _ IE) (Xt (cl:=⟨target,iter,ifs,0⟩:: rest) (HE _) hh (h3 H2.objs.size d Ay) rfl rfl r (tP J.inv.len.symm)
  (Z.feed hN (J.zero N.im) nN (wZ _ _ IE) SU (λ bn R c h' z1 z2 z3 z4=>hH bn R c h' z1 ((IO.tR J.inv j).trans z2) (pu.push.trans z3) z4) r) λ{I5 ρ5 s5} a5 b5 k5 d5=>?_)
 apply bd;intro p;obtain⟨dC,PW,lu,O⟩:x13:=Qw J j hZ g k5 a5 b5;apply p;exact q _ B _ _ _ D H2.objs.size dC (a1.trans lu) b1 J.inv J.fr PW (d5.trans d1) O (dE J g).fs
theorem OK.seal (k:OK pg w V ew {st with ph:=st.ph++[.list xs]} I (ρ++[[D]]) s)(T:Do pg w I1 ρ st.ph h1)(Y:IO ew st.loc I1 ρ h1)(hx:PV.TD ρ.length xs):
  ∃G,OK pg w V ew st (I.put D G) ρ s/\nw I (I.put D G)/\ce (I.put D G) ρ (.lst xs) (.ref D):=by
 apply bd;intro C;obtain⟨G,f,Vo,y⟩:x13:=k.inv.seal T.len T.TD hx;have R:nw I (I.put D G):=Fa Vo;have H:∀{z u},ce I (ρ++[[D]]) z u->PV.lt ρ.length z->ce (I.put D G) ρ z u:=λ M E=>(M.lower E).mono R (.refl _)
 have B:∀{a},I a=none->a∉(ρ++[[D]]).flatten->I.put D G a=none/\a∉ρ.flatten:=λ{a} e q=>⟨(Im.jR λ(e:a=D)=>q (j0.mpr (.inr (aO.mpr e)))).trans e,λ z=>q (j0.mpr (.inl z))⟩
 obtain⟨m0,_,uC⟩:=Y.ns;obtain⟨m,d,r⟩:=k.fr.ns;apply C;refine⟨G,⟨f,⟨⟨m,d,λ x z e J=>?_⟩,λ x c e=>?_,B k.fr.bt.1 k.fr.bt.2,λ x c e=>?_,k.fr.apart⟩,k.gens,k.top.trans R,λ p j=>?_⟩,R,y⟩
 .apply bd;intro C;obtain⟨u,o,M⟩:=r x z e J;obtain⟨_,_,oq⟩:=uC x z e J;apply C;exact⟨u,o,H M oq.lt⟩
 .apply bd;intro C;obtain⟨u,g,M⟩:=k.fr.cell x c e;obtain⟨_,_,oq⟩:=Y.cell x c e;apply C;exact⟨u,g,λ z U J=>by obtain⟨Z,ta,mS⟩:=M z U J;exact by obtain⟨_,_,vQ⟩:=oq z U J;exact ⟨Z,ta,H mS vQ.lt⟩⟩
 .apply bd;intro C;obtain⟨O,L,N⟩:x03:=k.fr.cout x c e;apply C;exact⟨λ Q=>(B (O Q) L).1,λ z=>L (j0.mpr (.inl z)),N⟩
 .apply bd;intro C;obtain⟨O,L,N,X⟩:x04:=k.No p j;apply C;exact⟨O,(B L N).1,(B L N).2,X⟩
theorem I9 {NH:aD->Prop}{ge ln}{use:Option (Value->Sem Unit)}{Q:Value->ae->Prop}(O:NH A)(g:rest≠[]->A.handled=none)(R:P3 ew scope cl al.loc ge)
  (Y:EJ pg w V A ew iter st al v) (N:sh NH pg w V A ew v al xs Hd)
  (U:∀C d,(∀vs,d≠Data.fields vs)->wf pg w V A (dM scope cl C ew) elt al.ph.length Hd (⟨target,iter,ifs,0⟩:: rest) xs ⟨ge,al.ph++[.list []],(ew.locals,d)::al.fs⟩ ⟨ln,al.ph++[.list ys],(ew.locals,d)::al.fs⟩)
  (eM:PV.TD al.ph.length ys) (T:∀x,iD iter ew x=aq x)
   (k:OK pg w V ew st I ρ s)
  (q:∀G B s' D C d,nw I G->pu ρ B->OK pg w V ew {al with fs:=(C,d)::al.fs} G B s'->s'.os=s.os->ce G B (.lst ys) (.ref D)->(∃m,s'.heap.Ns C m)->C∉al.fs.map (·.1)->compPost (af pg w) A E use Q (.ref D) C (.ok .next) s'):
  ag (af pg w) A (comprehension (.ListComp elt (⟨target,iter,ifs,0⟩:: rest) scope pos) scope ew pos' (newList []) false (eval iter ew) use) Q E s:=
 AD (ck:=.lst elt) (em:=λ ew=>nQ pg w V A ew elt al.ph.length) Jk (λ _=>nQ.run) O g R Y N U T k λ _ c _ G s' D C d a b H J L o m n=>by
  apply bd;intro Z;obtain⟨j,PP,M,f⟩:x13:=OK.seal (st:={al with fs:=(C,d)::al.fs}) L H J (H.len▸eM);apply Z;exact q _ _ _ D C d (a.trans M) b PP o f m n
theorem EJ.DX {NH:aD->Prop}{ge ln}(R:NH A)(u:rest≠[]->A.handled=none)(T:P3 ew scope cl al.loc ge)
  (f:EJ pg w V A ew iter st al v) (N:sh NH pg w V A ew v al xs Hd)
  (c:∀C d,(∀vs,d≠Data.fields vs)->wf pg w V A (dM scope cl C ew) elt al.ph.length Hd (⟨target,iter,ifs,0⟩:: rest) xs ⟨ge,al.ph++[.list []],(ew.locals,d)::al.fs⟩ ⟨ln,al.ph++[.list ys],(ew.locals,d)::al.fs⟩)
  (eM:PV.TD al.ph.length ys) (Z:∀x,iD iter ew x=aq x:=by intro _;rfl):
  EJ pg w V A ew (.ListComp elt (⟨target,iter,ifs,0⟩:: rest) scope pos) st al (.lst ys):=λ I X s Q E k q=>by
 rw[eval_ListComp];show ag (af pg w) A (comprehension (.ListComp elt (⟨target,iter,ifs,0⟩:: rest) scope pos) scope ew (firstIterPos (⟨target,iter,ifs,0⟩:: rest) pos) (newList []) false (eval iter ew) none) Q E s;refine I9 (use:=none) (Q:=Q) (E:=E) R u T f N c eM Z k λ O B H D C d a b J o j ⟨m,L⟩ G=>⟨m,L,λ z nX=>?_⟩
 apply bd;intro g;obtain⟨⟨y,KB,_⟩,M,U,r⟩:x04:=J.No (C,d) (aN ..);apply g
 .have cX:OK pg w V ew al O B H:=J.xq λ p Y=>aT _ Y
  exact q _ _ _ _ a b (cX.extBut (tk:=H.toks) nX.extBut M U r G) o j
theorem EJ.listcomp {ge ln}(B:A.handled=none)(L:P3 ew scope cl al.loc ge)
  (J:EJ pg w V A ew iter st al v) (G:rc pg w V A ew v al xs Hd)
  (H:∀C d,(∀vs,d≠Data.fields vs)->wf pg w V A (dM scope cl C ew) elt al.ph.length Hd (⟨target,iter,ifs,0⟩:: rest) xs ⟨ge,al.ph++[.list []],(ew.locals,d)::al.fs⟩ ⟨ln,al.ph++[.list ys],(ew.locals,d)::al.fs⟩)
  (eM:PV.TD al.ph.length ys) (D:∀x,iD iter ew x=aq x:=by intro _;rfl):
  EJ pg w V A ew (.ListComp elt (⟨target,iter,ifs,0⟩:: rest) scope pos) st al (.lst ys):=EJ.DX B (λ _=>B) L J G H eM D
theorem SJ.Es {ge ln}(K:ut ew)(hx:az ew x)(M:A.handled=none)(y:P3 ew scope cl al.loc ge)
  (h1:EJ pg w V A ew iter st al v) (u:rc pg w V A ew v al xs Hd)
  (h3:∀C d,(∀vs,d≠Data.fields vs)->wf pg w V A (dM scope cl C ew) elt al.ph.length Hd (⟨target,iter,ifs,0⟩:: rest) xs ⟨ge,al.ph++[.list []],(ew.locals,d)::al.fs⟩ ⟨ln,al.ph++[.list ys],(ew.locals,d)::al.fs⟩)
  (eM:PV.TD al.ph.length ys) (Qv:swapsWith (.ListComp elt (⟨target,iter,ifs,0⟩:: rest) scope cpos) (some (.Name x p)) pos.line ew=aq true) (hs:∀x,iD iter ew x=aq x:=by intro _;rfl):
  SJ pg w V A ew (.Assign [.Name x p] (.ListComp elt (⟨target,iter,ifs,0⟩:: rest) scope cpos) pos) st {al with loc:=(x,.lst ys)::al.loc} .next:=λ I ρ s Q E k q=>by
 rw[exec_Assign_Name_used _ _ _ _ Qv];refine aa (a9 (aa ?_));rw[arm_evalThenUse_ListComp];refine aa ?_;show ag (af pg w) A (comprehension (.ListComp elt (⟨target,iter,ifs,0⟩:: rest) scope cpos) scope ew (firstIterPos (⟨target,iter,ifs,0⟩:: rest) cpos) (newList []) false (eval iter ew) (some (PySem.assign (.Name x p) ew))) _ E s;refine I9 (use:=some (PySem.assign (.Name x p) ew)) (E:=E) M (λ _=>M) y h1 u h3 eM hs k λ I' Y s' D C d a b J o hv ⟨m,c⟩ H=>?_
 refine wpAny_assign_Name (qt K hx J hv λ N B L j U PP T=>?_);apply bd;intro nk;obtain⟨⟨R,KB,r⟩,g,z,r3⟩:x04:=PP.No (C,d) (aN ..);obtain⟨⟨Z,SQ,G⟩,_⟩:x02:=J.No (C,d) (aN ..);obtain⟨oC,f,X,xB,O,z2⟩:=c;apply nk;obtain rfl:=Option.some.inj (SQ.symm.trans xB);refine⟨m,⟨R,f,X,KB,(r.trans G.symm).trans O,z2⟩,λ h' nX=>?_⟩;have gL:OK pg w V ew {al with loc:=(x,.lst ys)::al.loc} N B L:=PP.xq λ p hp=>aT _ hp
 exact ah (ah (q _ _ _ _ (a.trans j) (b.trans U) (gL.extBut (tk:=L.toks) nX.extBut g z r3 H) (T.trans o) .next))
inductive jY (pg:aK)(w:aA)(V:Im)(A:aD)(ew:aB):List aF->List PV->PS->PS->Prop
 |nil {st:PS}:jY pg w V A ew [] [] st st
 |cons {t ts x xs}{st al bi:PS}:AJ pg w V A ew t x st al->jY pg w V A ew ts xs al bi->(assignEach (t::ts) ew=(false,assign t ew)::assignEach ts ew)->jY pg w V A ew (t::ts) (x::xs) st bi
theorem Ro {it:Addr}{H:Im->wl->Heap->Prop}:∀{xs:List PV}{o:Obj}{s:ae}{Q:List Value->ae->Prop}{E},OK pg w V ew st I ρ s->(∀s',OK pg w V ew st I ρ s'->H I ρ s'.heap) ->
  s.heap.get? it=some o->Sc ew st I ρ it->oW pg w H xs o ->
  (∀s' o' vs,OK pg w V ew st I ρ s'->s'.os=s.os->lm I ρ xs vs->s'.heap.get? it=some o'->oW pg w H [] o'->Q vs s')->ag (af pg w) A (draw (.ref it) xs.length) Q E s:=by
 intro xs
 induction xs with
 |nil=>exact λ k C D O B q=>ah (q _ _ [] k rfl .nil D B)
 |cons x xs N=>
  intro o s Q E k C D O B q;show ag _ _ (pyNext (.ref it) >>= _) Q E s;refine aa (B I ρ _ _ _ _ _ (C s k) D λ v o' M R T ik nN su yw=>?_);have L:OK pg w V ew st I ρ {s with heap:=M,toks:=R}:=k.ext su O;refine aa (aQ (N L C ik O yw λ s' J vs U y9 jp cH cI=>ah ?_));exact q s' J (v::vs) U y9 (.cons T jp) cH cI
def kZ (pg:aK)(w:aA)(V:Im)(A:aD)(ew:aB)(v:PV)(st:PS):Prop:=
 ∀I ρ s (Q:Bool->ae->Prop) E u,OK pg w V ew st I ρ s->ce I ρ v u->Q false s->ag (af pg w) A (notIterableAtAll u) Q E s
theorem kZ.lst:kZ pg w V A ew (.lst xs) st:=λ I C s Q E u k B q=>by
 obtain⟨_,_,_,rfl,e,r⟩:=B.inv;unfold notIterableAtAll;exact aa (wpAny_specialOf (T:="list") ⟨_,k.inv.lw _ _ e,rfl⟩ F.slot_list_iter.lookup (ah q))
theorem kZ.tup:kZ pg w V A ew (.tup xs) st:=λ I C s Q E u k B q=>by
 obtain⟨_,_,_,rfl,e,r⟩:=B.inv;unfold notIterableAtAll;exact aa (wpAny_specialOf (T:="tuple") ⟨_,k.inv.lw _ _ e,rfl⟩ F.slot_tuple_iter.lookup (ah q))
theorem HF {Q:List Value->ae->Prop}(L:A.handled=none)(N:kZ pg w V A ew v st)(hi:rc pg w V A ew v st xs Hd)(Z:Hd st.ph)(k:OK pg w V ew st I ρ s)(G:ce I ρ v u)
  (q:∀s' vs,OK pg w V ew st I ρ s'->s'.os=s.os->lm I ρ xs vs->Q vs s'):ag (af pg w) A (unpackItems u xs.length none) Q E s:=by
 k_delta "unpackItems"
 refine aa (N _ _ _ _ _ _ k G ?_);refine da (decide_eq_false (by decide)) ?_;refine aa (aQ (hi _ _ _ _ _ _ k G λ H o U Y B nN C _=>?_));have O:=dE k (aJ s.heap.objs.size);have M:(s.heap.push o).get? s.heap.objs.size=some o:=cj _ C;have a:OK pg w V ew st I ρ {s with heap:=s.heap.push o,toks:=U}:=(k.grow (.push _ _)).toks;have IH:∀s',OK pg w V ew st I ρ s'->H I ρ s'.heap:=λ s' R=>Y _ _ _ _ Z (.refl _) (.refl _) R.inv
 dsimp only;refine aa (aQ (Ro a IH M O B λ T c vs J y9 jp cH cI=>?_));refine da (decide_eq_false (by rw[<-jp.length];exact Nat.lt_irrefl _)) ?_;refine aa (aQ (cI I ρ _ _ _ _ _ L (IH T J) cH λ b ij su=>?_));simp only[Option.isSome_none,rF,if_false];exact ah (q _ vs (J.ext su O) y9 jp)
theorem jY.run:∀{st bv:PS}{I B s vs}{Q:Unit->ae->Prop}{E},jY pg w V A ew ts xs st bv->OK pg w V ew st I B s->lm I B xs vs->gx pg w V ew bv I B s (Q ()) ->
  ag (af pg w) A (assignInOrder ((assignEach ts ew).map (·.2)) vs) Q E s:=by
 intro st bv I B s vs Q E h
 induction h generalizing I B s vs Q with
 |nil=>intro k C q;obtain(⟨_,rfl⟩):=C.inv;exact ah (q _ _ _ (.refl _) (.refl _) k rfl)
 |cons M U J H=>
  intro k C q;obtain⟨_,_,rfl,L,jp⟩:=C.inv;rw[J];exact aa (aQ (M _ _ _ _ _ _ k L λ T N Y G D O R=>H O (jp.mono G D) (q.at G D R)))
theorem jY.facts {st bv}(h:jY pg w V A ew ts xs st bv):(assignEach ts ew).length=xs.length/\(assignEach ts ew).findIdx? (·.1)=none:=by
 induction h with
 |nil=>exact⟨rfl,rfl⟩
 |cons D G C B=>
  rw[C];exact⟨congrArg (· + 1) B.1,by rw[List.findIdx?_cons,B.2];rfl⟩
theorem AJ.unpack (L:A.handled=none)(C:kZ pg w V A ew v st)(hi:rc pg w V A ew v st xs Hd)(J:Hd st.ph)(B:jY pg w V A ew ts xs st al):AJ pg w V A ew (.Tuple ts k pos) v st al:=λ I N s Q E u k D q=>by
 rw[arm_assign_Tuple];refine aa (a9 ?_);obtain⟨e1,e2⟩:x02:=B.facts;unfold PySem.unpack;rw[e1,e2];refine aa (aQ (HF L C hi J k D λ M O G H jp=>B.run G jp (q.at (.refl _) (.refl _) H)))
theorem AJ.pM (B:A.handled=none)(C:jY pg w V A ew ts xs st al):AJ pg w V A ew (.Tuple ts k pos) (.lst xs) st al:=AJ.unpack B kZ.lst rc.lst trivial C
theorem AJ.kE (B:A.handled=none)(C:jY pg w V A ew ts xs st al):AJ pg w V A ew (.Tuple ts k pos) (.tup xs) st al:=AJ.unpack B kZ.tup rc.tup trivial C
theorem SJ.assign_tuple (N:EJ pg w V A ew value st al v)(L:AJ pg w V A ew (.Tuple ts k tpos) v al bi)
  (J:swapsWithSole [.Tuple ts k tpos] value pos.line ew=aq false:=by rfl) (D:swappedStores [.Tuple ts k tpos] value ew=aq none:=by rfl):
  SJ pg w V A ew (.Assign [.Tuple ts k tpos] value pos) st bi .next:=λ I d s Q E h q=>
 Assign_Tuple (N _ _ _ _ _ h λ b U e u T M Y C H=>L _ _ _ _ _ _ Y H λ a B c R G Z O=>q _ _ _ _ (T.trans R) (M.trans G) Z (O.trans C) .next) J D
theorem NP {names:List Str}:∀{xs:List PV}{st:PS}{I B s vs}{Q:Unit->ae->Prop}{E},ut ew->names.length=xs.length->(∀x∈names,az ew x)->OK pg w V ew st I B s->lm I B xs vs ->
  gx pg w V ew {st with loc:=(names.zip xs).reverse++st.loc} I B s (Q ())->ag (af pg w) A (assignInOrder (names.map λ n=>bindName ew n) vs) Q E s:=by
 induction names with
 |nil=>
  intro xs st I B s vs Q E K C D k G q
  cases xs with
  |nil=>obtain(⟨_,rfl⟩):=G.inv;exact ah (q _ _ _ (.refl _) (.refl _) k rfl)
  |cons _ _=>exact nomatch C
 |cons x names O=>
  intro xs st I B s vs Q E K C D k G q
  cases xs with
  |nil=>exact nomatch C
  |cons y xs=>
   obtain⟨_,_,rfl,R,jp⟩:=G.inv;refine aa (aQ (bindName_ (qt K (D x (aN ..)) k R λ Y U Z J H N M=>O K (Nat.succ.inj C) (λ z T=>D z (aT _ T)) N (jp.mono J H) ?_)));have e:((x,y)::names.zip xs).reverse++st.loc=(names.zip xs).reverse++((x,y)::st.loc):=by simp
   have L:=q.at J H M;rw[List.zip_cons_cons,e] at L;exact L
theorem lm.reverse:∀{xs vs},lm I ρ xs vs->lm I ρ xs.reverse vs.reverse
 | [],_,h=>h.inv▸.nil
 |_::_,_,h=>by obtain⟨_,_,e,a,b⟩:=h.inv;exact e▸by rw[List.reverse_cons,List.reverse_cons];exact b.reverse.append (.cons a .nil)
theorem SJ.U9 (K:ut ew)(e:A.handled=none)(b:EJ pg w V A ew value st al (.tup vs))(B:names.length=vs.length)(G:∀x∈names,az ew x)
  (Y:swappedStores [.Tuple ts k tpos] value ew=aq (some names)) (a:swapsWithSole [.Tuple ts k tpos] value pos.line ew=aq false:=by rfl):
  SJ pg w V A ew (.Assign [.Tuple ts k tpos] value pos) st {al with loc:=(names.reverse.zip vs.reverse).reverse++al.loc} .next:=λ I n s Q E h q=>
 Assign_Tuple_swapped (b _ _ _ _ _ h λ i c l u O J R d Z=>by
  rw[B];refine HF e kZ.tup rc.tup trivial R Z λ g j H L KM=>?_
  have:=NP (pg:=pg) (w:=w) (V:=V) (A:=A) (names:=names.reverse) (E:=E) (Q:=λ _=>Q .next) K (by rw[jn,jn];exact B) (λ x M=>G x (List.mem_reverse.mp M)) H KM.reverse λ f C m N D U T=>q _ _ _ _ (O.trans N) (J.trans D) U (T.trans (L.trans d)) .next
  exact this) a Y
mutual
noncomputable def PV.D:PV->PyData
 | .none=>.none
 | .bool b=>.bool b
 | .int i=>.int i
 | .str x=>.str x
 | .lst xs=>.list (PV.Ds xs)
 | .tup xs=>.tuple (PV.Ds xs)
 |_=>.none
noncomputable def PV.Ds:List PV->List PyData
 | []=>[]
 |x::xs=>x.D::PV.Ds xs
end
mutual
noncomputable def PV.bR:PV->Bool
 | .none=>true
 | .bool _=>true
 | .int _=>true
 | .str _=>true
 | .lst xs=>PV.n9 xs
 | .tup xs=>PV.n9 xs
 |_=>false
noncomputable def PV.n9:List PV->Bool
 | []=>true
 |x::xs=>x.bR&&PV.n9 xs
end
theorem nc {p:Prop}(h:false=true):p:=nomatch h
theorem ce.V2 (H:∀a o,I a=some o->Heap.get? h a=some o):
  (∀{x v},ce I ρ x v->x.bR=true->∃B,Reads h v x.D B)/\(∀{x v},lm I ρ x v->PV.n9 x=true->∃B,ReadsAll h v (PV.Ds x) B)/\∀{x v},dH I ρ x v->True:=
 ce.ind (P:=λ x v=>x.bR=true->∃B,Reads h v x.D B) (Q:=λ x v=>PV.n9 x=true->∃B,ReadsAll h v (PV.Ds x) B) (R:=λ _ _=>True)
  (λ _=>⟨_,.none⟩) (λ b _=>⟨_,.bool b⟩) (λ i t _=>⟨_,.int i t⟩) (λ x t _=>⟨_,.str x t⟩) (λ e f d=>by obtain⟨B,r⟩:=f d;exact ⟨B,.tuple (H _ _ e) rfl rfl r⟩) (λ{_ a _ _} e f d=>by obtain⟨B,r⟩:=f d;exact ⟨a::B,.list (H _ _ e) rfl rfl r⟩)
  (λ _ d=>nc d) (λ _ d=>nc d) (λ _ d=>nc d) (λ _ d=>nc d) (λ _ _ d=>nc d) (λ _ _ d=>nc d) (λ _ _ d=>nc d) (λ _ d=>nc d)
  (λ _=>⟨_,.nil⟩) (λ a b d=>have d:=Bool.and_eq_true_iff.mp d;by obtain⟨B,r⟩:=a d.1;exact by obtain⟨C,q⟩:=b d.2;exact ⟨B++C,.cons r q⟩) trivial (λ _ _=>trivial)
theorem ce.reads (H:∀a o,I a=some o->Heap.get? h a=some o)(r:ce I ρ x v):x.bR=true->∃B,Reads h v x.D B:=(ce.V2 H).1 r
theorem CJ.eq_data (G:A.units+64<cLine)(H:a.bR=true)(D:b.bR=true)(M:a.D.layable0=true)(B:b.D.layable0=true):CJ pg w V A ew .Eq a b st (PyData.eqv a.D b.D):=λ I T s Q E u v k L N q=>by
 obtain⟨O,J⟩:=L.reads k.inv.lw H;obtain⟨R,C⟩:=N.reads k.inv.lw D;exact eq_dataS J C M B G (q.here k (.bool _))
theorem CJ.ne_data (G:A.units+64<cLine)(H:a.bR=true)(D:b.bR=true)(M:a.D.layable0=true)(B:b.D.layable0=true):CJ pg w V A ew .NotEq a b st (!PyData.eqv a.D b.D):=λ I T s Q E u v k L N q=>by
 obtain⟨O,J⟩:=L.reads k.inv.lw H;obtain⟨R,C⟩:=N.reads k.inv.lw D;exact ne_dataS J C M B G (q.here k (.bool _))
theorem SJ.expr (K:ut ew)(h:EJ pg w V A ew e st al v)(B:swapsWith e none pos.line ew=aq false:=by rfl):SJ pg w V A ew (.Expr e pos) st al .next:=λ I C s Q E k q=>
 wpAny_Expr_any (h _ _ _ _ _ k λ _ _ _ _ a b c d _=>q _ _ _ _ a b c d .next) (by unfold interactive;rw[K.kind];rfl) B
theorem Ap:∀{xs:List Str}{vs},lm I ρ (xs.map .str) vs->StrsAre vs xs:=by
 intro xs
 induction xs with
 |nil=>exact λ h=>h.inv▸.nil
 |cons x xs B=>intro _ h;obtain⟨_,_,e,a,b⟩:=h.inv;obtain⟨t,C⟩:=a.inv;exact e▸C▸.cons x t (B b)
theorem Jz {vs:List Value}{xs:List Str}(h:StrsAre vs xs):lm I ρ (xs.map .str) vs:=by
 induction h with
 |nil=>exact .nil
 |cons _ _ _ B=>exact .cons (.str _ _) B
theorem CJ.vI {c:Str}{xs:List Str}:CJ pg w V A ew .NotIn (.str c) (.lst (xs.map .str)) st (!xs.any (· == c)):=λ I D s Q E u v k B C q=>by
 obtain⟨_,rfl⟩:=B.inv;obtain⟨_,_,_,rfl,e,r⟩:=C.inv;exact notin_list_strs (IsL.isList (k.inv.lw _ _ e)) (Ap r) (q.here k (.bool _))
theorem ds.sorted {xs ys:List Str}(G:xs.length<64)(R:∀D:List Str,D.Perm xs->sortedS D=true->D=ys):ds pg w V A ew (.builtin "sorted") [.lst (xs.map .str)] st st (.lst (ys.map .str)):=λ I U s Q E d k jp q=>by
 obtain⟨v,rfl,Z⟩:=cz jp;obtain⟨a,B,n,rfl,e,r⟩:=Z.inv;have J:B.length<64:=by rw[<-r.length,aE];exact G
 refine sorted_strs (IsL.isList (k.inv.lw _ _ e)) (Ap r) J λ C zF Y T L=>?_
 obtain rfl:=R zF T L;obtain⟨N,M⟩:=sortedAll_at s.heap B C;have b:OK pg w V ew st I U {s with heap:=sortedAll s.heap B C}:=k.grow λ _ _=>sortedAll_old
 have O:=dE (a:=s.heap.objs.size+1) k (Nat.le_succ _);have c:=b.freeze (a:=s.heap.objs.size+1) O M;refine q _ _ _ _ (Fa O.im) (.refl _) c rfl (.lst (items:=C.toList) (n:=N) ?_ (Jz Y));rw[Im.XV]
theorem xK {α B:Type}[BEq α][LawfulBEq α]{P:α->B->Prop}:∀{l:List (α×B)},(∀p∈l,P p.1 p.2)->∀{x c},l.lookup x=some c->P x c:=by
 intro l
 induction l with
 |nil=>intro _ x c h;cases h
 |cons p l C=>
  intro H x c h;obtain(⟨y,d⟩):=p;rw[cK] at h
  cases e:x==y with
  |true=>rw[e] at h;cases h;obtain rfl:=beq_iff_eq.mp e;exact H _ (aN ..)
  |false=>rw[e] at h;exact C (λ p D=>H p (aT _ D)) h
inductive oX {α:Type}(P:α->Prop):List α->Prop
 |nil:oX P []
 |cons {x xs}:P x->oX P xs->oX P (x::xs)
theorem oX.all {α:Type}{P:α->Prop}{l:List α}(h:oX P l):∀x∈l,P x:=by
 induction h with
 |nil=>exact λ _ h=>by cases h
 |cons a _ B=>exact λ x h=>(aG.mp h).elim (λ e=>e▸a) (B x)
theorem P3.of {ew:aB}{scope:Scope}{cl:List (Str×Addr)}{loc ge:List (Str×PV)}(clos:closureFor scope ew=aq cl)(B:(scope.names.all λ y=>y.2 != .cell)=true)(kind:scope.kind = .function)
  (names:(scope.names.all λ y=>y.2 != .local||scope.names.lookup y.1==some .local)=true) (sub:oX (λ p:Str×Addr=>ew.cells.lookup p.1=some p.2) cl)
  (out:oX (λ p:Str×PV=>loc.lookup p.1=some p.2/\(ew.kindOf p.1=some .cell\/ew.kindOf p.1=some .free)/\((relabel scope ew).names.lookup p.1=some .cell\/(relabel scope ew).names.lookup p.1=some .free)) ge):P3 ew scope cl loc ge:=by
 refine⟨clos,λ y C=>?_,kind,λ y C e=>?_,λ x c h=>xK (P:=λ x c=>ew.cells.lookup x=some c) sub.all h,λ x v h=>?_,λ x v h=>?_⟩
 .simpa using j6.mp B y C
 .have:=j6.mp names y C
  simpa [e] using this
 .exact(xK (P:=λ x v=>loc.lookup x=some v/\(ew.kindOf x=some .cell\/ew.kindOf x=some .free)/\((relabel scope ew).names.lookup x=some .cell\/(relabel scope ew).names.lookup x=some .free)) out.all h).1
 .have:=(xK (P:=λ x v=>loc.lookup x=some v/\(ew.kindOf x=some .cell\/ew.kindOf x=some .free)/\((relabel scope ew).names.lookup x=some .cell\/(relabel scope ew).names.lookup x=some .free)) out.all h).2;exact⟨this.1,λ e=>by rcases this.2 with q|q<;>(rw[e] at q;cases q)⟩
theorem ut.comp {scope:Scope}{cl:List (Str×Addr)}{C:Addr}(K:ut ew)(B:scope.kind = .function):ut (dM scope cl C ew):=⟨B,K.glob,K.blt⟩
theorem EJ.weak (h:EJ pg w V A ew e st al v)(B:aw l al.loc):EJ pg w V A ew e st {al with loc:=l} v:=
 λ _ _ _ _ _ k q=>h _ _ _ _ _ k λ _ _ _ _ a b c d e=>q _ _ _ _ a b (c.sw B) d e
theorem TJ.weak (h:TJ pg w V A ew e st al v)(B:aw l al.loc):TJ pg w V A ew e st {al with loc:=l} v:=
 λ _ _ _ _ _ k q=>h _ _ _ _ _ k λ _ _ _ a b c d=>q _ _ _ a b (c.sw B) d
theorem SJ.mT {bv:PS}(names:List Str)(K:ut ew)(L:A.handled=none)(G:EJ pg w V A ew value st al (.tup vs))(D:bv={al with loc:=(names.reverse.zip vs.reverse).reverse++al.loc})(J:names.length=vs.length)(B:∀x∈names,az ew x)
  (H:swappedStores [.Tuple ts k tpos] value ew=aq (some names)) (C:swapsWithSole [.Tuple ts k tpos] value pos.line ew=aq false):
  SJ pg w V A ew (.Assign [.Tuple ts k tpos] value pos) st bv .next:=D▸SJ.U9 K L G J B H C
theorem FJ.steps:∀(xs:List PV) (st:Nat->PS) {bv f},(∀i x,xs[i]? = some x->Hd (st i).ph/\∃al,AJ pg w V A ew target x (st i) al/\XJ pg w V A ew body al (st (i+1)) .next)->Hd (st xs.length).ph ->
  XJ pg w V A ew orelse (st xs.length) bv f->FJ pg w V A ew Hd target body orelse xs (st 0) bv f:=by
 intro D
 induction D with
 |nil=>
  intro st _ _ h B C;exact .done B C
 |cons x xs G=>
  intro st _ _ h B C;apply bd;intro L;obtain⟨J,al,N,H⟩:x0212:=h 0 x rfl;apply L;exact .next J N H (.inl rfl) (G (λ i=>st (i+1)) (λ i y M=>h (i+1) y M) B C)
def Fr (pg:aK)(w:aA)(V:Im)(A:aD)(ew:aB)(target:aF)(ifs:List aF)(elt:aF)(x:PV)(ge:List (Str×PV))(db:List PO)(fs:List (Addr×Data))(r:Option PV):Prop:=
 ∀ys,match r with
 |none=>∃al,AJ pg w V A ew target x ⟨ge,db++[.list ys],fs⟩ al/\b9 pg w V A ew ifs al ⟨ge,db++[.list ys],fs⟩ false
 |some v=>∃al bi,AJ pg w V A ew target x ⟨ge,db++[.list ys],fs⟩ al/\b9 pg w V A ew ifs al bi true/\EJ pg w V A ew elt bi ⟨ge,db++[.list ys],fs⟩ v
theorem Fr.no {ge db}(h:∀ys,∃al,AJ pg w V A ew target x ⟨ge,db++[.list ys],fs⟩ al/\b9 pg w V A ew ifs al ⟨ge,db++[.list ys],fs⟩ false):Fr pg w V A ew target ifs elt x ge db fs none:=λ ys=>h ys
theorem Fr.yes {ge db}(h:∀ys,∃al bi,AJ pg w V A ew target x ⟨ge,db++[.list ys],fs⟩ al/\b9 pg w V A ew ifs al bi true/\EJ pg w V A ew elt bi ⟨ge,db++[.list ys],fs⟩ v):Fr pg w V A ew target ifs elt x ge db fs (some v):=λ ys=>h ys
theorem wf.turns {ge db}(G:∀ys,Hd (db++[PO.list ys])):∀{xs:List PV}{rs:List (Option PV)}{ys:List PV},xs.length=rs.length->(∀(i:Nat) x r,xs[i]? = some x->rs[i]? = some r->Fr pg w V A ew target ifs elt x ge db fs r) ->
  ys.length+xs.length<=aH->wf pg w V A ew elt db.length Hd [⟨target,iter,ifs,0⟩] xs ⟨ge,db++[.list ys],fs⟩ ⟨ge,db++[.list (ys++rs.filterMap id)],fs⟩:=by
 intro xs
 induction xs with
 |nil=>
  intro rs ys h _ _;obtain rfl:=List.eq_nil_of_length_eq_zero h.symm;exact(nC ys).symm▸.done (G ys)
 |cons x xs J=>
  intro rs ys B h D
  cases rs with
  |nil=>exact nomatch B
  |cons v rs=>
  cases v with
  |none=>
   obtain⟨_,C,H⟩:=h 0 x none rfl rfl ys;exact .skip (G ys) C H (J (rs:=rs) (Nat.succ.inj B) (λ i y q a b=>h (i+1) y q a b) (Nat.le_of_succ_le D))
  |some v=>
   apply bd;intro M;obtain⟨_,_,C,H,L⟩:=h 0 x (some v) rfl rfl ys;apply M;have z:=J (rs:=rs) (ys:=ys++[v]) (Nat.succ.inj B) (λ i y q a b=>h (i+1) y q a b) (by rw[aP];exact av (dK (Nat.succ_add_eq_add_succ _ _)) D);rw[eH] at z;refine .emit (G ys) C H L nB (av (dW _ _) D) ?_;show wf pg w V A ew elt db.length Hd _ xs ⟨ge,(db++[PO.list ys]).set db.length (.list (ys++[v])),fs⟩ _;rw[List.set_append_right _ _ (aJ _),Nat.sub_self];exact z
theorem b9.one (h:TJ pg w V A ew c st al b):b9 pg w V A ew [c] st al b:=by
 refine⟨al,b,h,?_⟩;cases b
 .exact⟨rfl,rfl⟩
 .exact⟨rfl,rfl⟩
theorem b9.none:b9 pg w V A ew [] st st true:=⟨rfl,rfl⟩
theorem wf.AH {ge db}(rs:List (Option PV))(D:ys=rs.filterMap id)(C:∀ys,Hd (db++[PO.list ys]))(B:xs.length=rs.length)
  (h:∀(i:Nat) x r,xs[i]? = some x->rs[i]? = some r->Fr pg w V A ew target ifs elt x ge db fs r) (hz:xs.length<=aH):
  wf pg w V A ew elt db.length Hd [⟨target,iter,ifs,0⟩] xs ⟨ge,db++[.list []],fs⟩ ⟨ge,db++[.list ys],fs⟩:=by
 have:=wf.turns (iter:=iter) C (ys:=[]) B h (av (dK (lP _)) hz);rw[jo] at this;rw[D];exact this
theorem MW {α:Type}(f:α->PV):∀l:List α,(l.map λ x=>some (f x)).filterMap id=l.map f:=by
 intro B
 induction B with
 |nil=>
  exact rfl
 |cons x l C=>
  exact congrArg (f x :: ·) (C)
theorem GO {α:Type}(p:α->Bool)(f:α->PV):∀l:List α,(l.map λ x=>if p x then some (f x) else none).filterMap id=(l.filter p).map f:=by
 intro C
 induction C with
 |nil=>
  exact rfl
 |cons x l B=>
  rw[aL,List.filter_cons];cases p x
  .exact B
  .exact congrArg (f x :: ·) (B)
theorem wf.rows {α:Type}{f g:α->PV}(p:α->Bool){l:List α}{ge db}(G:∀ys,Hd (db++[PO.list ys]))(hz:l.length<=aH)
  (h:∀a,a∈l->Fr pg w V A ew target ifs elt (f a) ge db fs (if p a then some (g a) else none)):
  wf pg w V A ew elt db.length Hd [⟨target,iter,ifs,0⟩] (l.map f) ⟨ge,db++[.list []],fs⟩ ⟨ge,db++[.list ((l.filter p).map g)],fs⟩:=
 wf.AH (l.map λ a=>if p a then some (g a) else none) (GO p g l).symm G (by rw[aE,aE]) (λ i x r C B=>by
  rw[cM] at C B;obtain⟨a,D,rfl⟩:=pA.mp C;rw[D] at B;exact Option.some.inj B▸h a (eX D)) (by rw[aE];exact hz)
theorem wf.all {α:Type}{f g:α->PV}{l:List α}{ge db}(B:∀ys,Hd (db++[PO.list ys]))(hz:l.length<=aH)
  (h:∀a,a∈l->Fr pg w V A ew target ifs elt (f a) ge db fs (some (g a))):
  wf pg w V A ew elt db.length Hd [⟨target,iter,ifs,0⟩] (l.map f) ⟨ge,db++[.list []],fs⟩ ⟨ge,db++[.list (l.map g)],fs⟩:=by
 have z:=wf.rows (pg:=pg) (w:=w) (V:=V) (A:=A) (ew:=ew) (iter:=iter) (λ _=>true) B hz h
 rwa [List.filter_eq_self.mpr λ _ _=>rfl] at z
theorem Fr.test {ge ey db}(h:∀ys,AJ pg w V A ew target x ⟨ge,db++[.list ys],fs⟩ ⟨ey,db++[.list ys],fs⟩ /\
  TJ pg w V A ew c ⟨ey,db++[.list ys],fs⟩ ⟨ey,db++[.list ys],fs⟩ b/\EJ pg w V A ew elt ⟨ey,db++[.list ys],fs⟩ ⟨ey,db++[.list ys],fs⟩ v) (C:aw ge ey):
  Fr pg w V A ew target [c] elt x ge db fs (if b then some v else none):=by
 intro ys;obtain⟨B,D,G⟩:x03:=h ys
 cases b with
 |true=>exact⟨_,_,B,b9.one D,G.weak C⟩
 |false=>exact⟨_,B,b9.one (D.weak C)⟩
theorem Fr.each {ge ey db}(h:∀ys,AJ pg w V A ew target x ⟨ge,db++[.list ys],fs⟩ ⟨ey,db++[.list ys],fs⟩ /\
  EJ pg w V A ew elt ⟨ey,db++[.list ys],fs⟩ ⟨ey,db++[.list ys],fs⟩ v) (D:aw ge ey):Fr pg w V A ew target [] elt x ge db fs (some v):=λ ys=>by
 obtain⟨C,B⟩:x02:=h ys;exact⟨_,_,C,b9.none,B.weak D⟩
theorem Fr.qU {ge db}(K:ut ew)(hx:az ew x)(B:aw ge ((x,v)::ge))(h:∀ys,TJ pg w V A ew c ⟨(x,v)::ge,db++[.list ys],fs⟩ ⟨(x,v)::ge,db++[.list ys],fs⟩ b /\
  EJ pg w V A ew elt ⟨(x,v)::ge,db++[.list ys],fs⟩ ⟨(x,v)::ge,db++[.list ys],fs⟩ r):Fr pg w V A ew (.Name x p) [c] elt v ge db fs (if b then some r else none):=
 Fr.test (λ ys=>⟨AJ.name K hx,h ys⟩) B
theorem Fr.nS {ge db}(K:ut ew)(hx:az ew x)(B:aw ge ((x,v)::ge))(h:∀ys,EJ pg w V A ew elt ⟨(x,v)::ge,db++[.list ys],fs⟩ ⟨(x,v)::ge,db++[.list ys],fs⟩ r):
  Fr pg w V A ew (.Name x p) [] elt v ge db fs (some r):=
 Fr.each (λ ys=>⟨AJ.name K hx,h ys⟩) B
theorem xu:∀(n:Nat) (a:Int) (i:Nat),(jc a n)[i]? = if i<n then some (.int (a+i)) else none
 |0,a,i=>rfl
 |n+1,a,0=>congrArg (λ z=>some (PV.int z)) (Int.add_zero a).symm
 |n+1,a,i+1=>by
  refine(xu n (a+1) i).trans ?_;rw[Int.add_assoc,(Int.add_comm 1)]
  by_cases h:i<n
  .rw[if_pos h,if_pos (Nat.succ_lt_succ h)];rfl
  .rw[if_neg h,if_neg λ q=>h (Nat.lt_of_succ_lt_succ q)]
theorem xp:∀(n:Nat) (a:Int),(jc a n).length=n:=by
 intro B
 induction B with
 |zero=>
  intro _;exact rfl
 |succ n C=>
  intro a;exact congrArg (· + 1) (C _)
theorem Gf {n i:Nat}(h:(jc 0 n)[i]? = some x):i<n/\x = .int i:=by
 rw[xu,Int.zero_add] at h
 by_cases q:i<n
 .rw[if_pos q] at h;exact⟨q,(Option.some.inj h).symm⟩
 .rw[if_neg q] at h;exact nomatch h
theorem yZ (n:Nat):jc 0 n=(bj n).map λ j=>.int j:=by
 refine List.ext_getElem? λ i=>?_
 rw[xu,cM,Int.zero_add]
 by_cases h:i<n
 .rw[if_pos h,List.getElem?_range h];rfl
 .rw[if_neg h,lG (by rw[List.length_range];exact Nat.not_lt.mp h)];rfl
theorem FJ.range (n:Nat)(st:Nat->PS){bv}(h:∀i,i<n->Hd (st i).ph/\∃al,AJ pg w V A ew target (.int i) (st i) al/\XJ pg w V A ew body al (st (i+1)) .next)(C:Hd (st n).ph)
  (D:XJ pg w V A ew orelse (st n) bv f):FJ pg w V A ew Hd target body orelse (jc 0 n) (st 0) bv f:=
 FJ.steps _ st (λ i x B=>by obtain⟨a,b⟩:x02:=Gf B;exact b▸h i a) (by rw[xp];exact C) (by rw[xp];exact D)
theorem GJ.iQ {i:Nat}(hx:xs[i]? = some x)(B:i<2 ^ 62:=by decide):GJ pg w V A ew (.lst xs) (.int i) st x:=GJ.lst (je i) (BZ B) hx
theorem small {n:Nat}(h:n<=1000:=by exact eE rfl):n<=aH:=av h (by rw[ak];decide)
theorem Oh {k k0:Int}{t:Tok}:Value.isInt k (.int k0 t)=(k==k0):=by rw[(iE)];simp[Value.isInt];exact eq_comm
theorem dH.mapOf:∀{es:List (Int×PV)}{ents},dH I ρ es ents->(∀e∈ents,∃k t,e.key = .int k t/\e.hash=hashInt k)/\(∀k x,es.lookup k=some x->∃v,(ents.find? λ e=>Value.isInt k e.key).map (·.val)=some v/\ce I ρ x v)/\(∀k,es.lookup k=none->(ents.find? λ e=>Value.isInt k e.key)=none):=by
 intro G
 induction G with
 |nil=>
  intro _ h;exact h.inv▸⟨λ _ C=>(nomatch C),λ _ _ h=>(nomatch h),λ _ _=>rfl⟩
 |cons M es H=>
  obtain(⟨D,U⟩):=M;intro _ h;apply bd;intro O;obtain⟨t,v,T,rfl,g,J⟩:=h.inv;obtain⟨N,R,L⟩:x03:=H J;apply O;refine⟨λ e C=>(aG.mp C).elim (λ q=>q▸⟨D,t,rfl,rfl⟩) (N e),λ k x B=>?_,λ k B=>?_⟩<;>rw[cK] at B<;>rw[List.find?_cons,Oh]<;>cases e:k==D<;>rw[e] at B
  .exact R k x B
  .exact⟨v,rfl,Option.some.inj B▸g⟩
  .exact L k B
  .exact nomatch B
theorem xM {k:Int}{t:Tok}:(intKind pg w).is k (.int k t)=true:=by simp[intKind,Value.isInt]
theorem Fk (k:OK pg w V ew st I ρ s)(M:ce I ρ (.eT es) (.ref a)):∃f,s.heap.MapOf (intKind pg w) a f/\(∀k x,es.lookup k=some x->∃v,f k=some v/\ce I ρ x v)/\∀k,es.lookup k=none->f k=none:=by
 apply bd;intro C;obtain⟨_,B,n,q,e,G⟩:=M.inv;obtain rfl:=Value.ref.inj q;obtain⟨L,N,H⟩:x03:=G.mapOf;apply C;refine⟨findBy (intKind pg w).is (aM B),⟨_,_,_,k.inv.lw _ _ e,⟨rfl,rfl,rfl⟩,rfl,λ x J=>?_,λ _=>rfl⟩,λ k x D=>?_,λ k D=>?_⟩
 .apply bd;intro C;obtain⟨k,t,e1,e2⟩:=L x (Array.mem_toList_iff.mpr J);apply C;exact⟨k,e1▸xM,e2⟩
 .apply bd;intro C;obtain⟨v,e1,e2⟩:=N k x D;apply C;refine⟨v,?_,e2⟩;unfold findBy;rw[List.find?_toArray];exact e1
 .have:=H k D;unfold findBy;rw[List.find?_toArray];show((B.find? λ e=>Value.isInt k e.key).map (·.val))=none;rw[this];rfl
theorem GJ.eT (hx:es.lookup k=some x):GJ pg w V A ew (.eT es) (.int k) st x:=λ I L s Q E u v B C J q=>by
 apply bd;intro H;obtain⟨_,rfl⟩:=J.inv;have ta:=C;obtain⟨_,_,_,rfl,e,r⟩:=C.inv;obtain⟨f,D,G,_⟩:x13:=Fk B ta;obtain⟨v,e1,e2⟩:=G k x hx;apply H;refine⟨"dict",_,F.slot_dict_getitem.lookup,D.typeIs,wpAny_getItem_of (knd:=intKind pg w) xM D e1 ?_⟩
 first|exact q.toks B e2|exact q.here B e2
def cB (V:Im):Prop:=∃o,V sysModules=some o/\∀ents n,o.data = .dict ents n->∀e∈ents.toList,∃x t,e.key = .str x t
theorem Pd (H:cB V)(k:OK pg w V ew st I ρ s)(G:ce I ρ (.eT ((k0,x0)::es)) (.ref a)):(a==sysModules)=false:=by
 obtain⟨_,_,_,q,e,D⟩:=G.inv;obtain rfl:=Value.ref.inj q;obtain⟨_,_,_,rfl,h,L⟩:=D.inv;rw[(beq_eq_false_iff_ne)]
 rintro rfl
 obtain⟨o,J,C⟩:=H;obtain rfl:=Option.some.inj ((k.top _ _ J).symm.trans e);obtain⟨x,t,B⟩:x21:=C _ _ rfl _ (aN ..);exact Value.noConfusion B
theorem CJ.Wp {k:Int}(N:cB V):CJ pg w V A ew .In (.int k) (.eT ((k0,x0)::es)) st (((k0,x0)::es:List (Int×PV)).lookup k).isSome:=λ I O s Q E u v B G D q=>by
 apply bd;intro L;obtain⟨_,rfl⟩:=G.inv;have mS:=D;obtain⟨_,_,_,rfl,e,r⟩:=D.inv;obtain⟨f,H,J,M⟩:x13:=Fk B mS;apply L;refine wpAny_in_of (knd:=intKind pg w) (k:=k) xM (Pd N B mS) H ?_;have:(f k).isSome=(((k0,x0)::es:List (Int×PV)).lookup k).isSome:=by
  cases C:((k0,x0)::es:List (Int×PV)).lookup k with
  |none=>rw[M k C];rfl
  |some x=>obtain⟨v,e1,_⟩:=J k x C;rw[e1];rfl
 rw[this];exact q.toks B (.bool _)
inductive nO (ew:aB)(pos:Pos):List (Sem Value×Sem Value)->List (Int×Str)->Prop
 |nil:nO ew pos [] []
 |cons {k x n1 p1 n2 p2 ps l}:nO ew pos ps l->nO ew pos ((eval (.Constant (.int k) n1 p1) ew,do let x <-eval (.Constant (.str x) n2 p2) ew;dv pos;aq x)::ps) ((k,x)::l)
inductive qG:List (Value×Value)->List (Int×Str)->Prop
 |nil:qG [] []
 |cons {k x t u vs l}:qG vs l->qG ((.int k t,.str x u)::vs) ((k,x)::l)
inductive nM:List (Option aF)->List aF->List (Int×Str)->Prop
 |nil:nM [] [] []
 |cons {k x n1 p1 n2 p2 ks vs l}:nM ks vs l->nM (some (.Constant (.int k) n1 p1)::ks) (.Constant (.str x) n2 p2::vs) ((k,x)::l)
theorem nM.pairs {ew:aB}{pos:Pos}(h:nM ks vs l):∃B,nO ew pos B l/\B.length=l.length /\
  (evalEachOpt ks ew).zip ((evalEach vs ew).map λ v=>do let x <-v;dv pos;aq x)=B.map λ p=>(some p.1,p.2):=by
 induction h with
 |nil=>exact⟨[],.nil,rfl,rfl⟩
 | @cons k x n1 D G C ks vs l h H=>
  apply bd;intro M;obtain⟨B,L,N,J⟩:x13:=H;apply M;refine⟨_,.cons (k:=k) (x:=x) (n1:=n1) (p1:=D) (n2:=G) (p2:=C) L,by simp[N],?_⟩
  rewrite [aL,<-J]
  rfl
theorem nO.run (h:nO ew pos ps l):∀{s:ae}{Q:List (Value×Value)->ae->Prop}{E},(∀vs tk,qG vs l->Q vs {s with toks:=tk})->ag (af pg w) A (evalPairs ps) Q E s:=by
 induction h with
 |nil=>intro s Q E q;exact ah (q [] s.toks .nil)
 |cons h B=>
  intro s Q E q;show ag _ _ (eval _ ew >>= _) Q E s;refine aa (wpAny_Constant_int (aa (aQ (aa ?_))));rw[eval_Constant];refine wpAny_mkText (aa (a9 (ah (aa (aQ (B λ vs tk C=>ah ?_))))));exact q _ tk (.cons C)
theorem qG.kvs (h:qG vs l):∃kvs:List (Int×Value),Carries (intKind pg w) vs kvs/\kvs.map (·.1)=l.map (·.1)/\∀I B,lm I B (l.map λ p=>PV.str p.2) (kvs.map (·.2)):=by
 induction h with
 |nil=>exact⟨[],trivial,rfl,λ _ _=>.nil⟩
 | @cons k x t u vs l h C=>
  apply bd;intro H;obtain⟨kvs,G,J,D⟩:x13:=C;apply H;exact⟨(k,.str x u)::kvs,⟨xM,rfl,G⟩,congrArg (k :: ·) J,λ I B=>.cons (.str _ _) (D I B)⟩
theorem Nn {kvs:List (Int×Value)}:∀{more:List (Int×Value)},((kvs++more).map (·.1)).Nodup->merged kvs more=kvs++more:=by
 intro more
 induction more generalizing kvs with
 |nil=>intro _;simp[merged]
 |cons p more C=>
  intro h;have B:kvs.any (λ D=>D.1=p.1)=false:=by
   rw[(List.any_eq_false)];rw[aY,jm] at h;exact λ q G e=>h.2.2 q.1 (nr G) p.1 (aN ..) (of_decide_eq_true e)
  show merged (stored kvs p.1 p.2) more=_;have:stored kvs p.1 p.2=kvs++[p]:=by unfold stored;rw[B];rfl
  rw[this,C (by rw[eH];exact h),eH];rfl
theorem Yg (h:Pairs (intKind pg w) es kvs):∀{l:List (Int×PV)},(∀e∈es,∃k,(intKind pg w).is k e.key=true/\e.hash=(intKind pg w).hash k)->kvs.map (·.1)=l.map (·.1)->lm I ρ (l.map (·.2)) (kvs.map (·.2))->dH I ρ l es:=by
 induction h with
 |nil=>
  intro l _ B _
  cases l with
  |nil=>exact .nil
  |cons _ _=>exact nomatch B
 | @cons e N es kvs Z C E H=>
  obtain(⟨k,v⟩):=N;intro l L B T
  cases l with
  |nil=>exact nomatch B
  |cons p l=>
   obtain(⟨O,x⟩):=p;obtain⟨D,w0⟩:x02:=List.cons.inj B;have D:k=O:=D;subst D;obtain⟨u,V,e1,R,qp⟩:=T.inv;obtain⟨e2,U⟩:x02:=List.cons.inj e1;subst e2 U;have H:=H (λ e Q=>L e (aT _ Q)) w0 qp;obtain(⟨h,Y,G⟩):=e;obtain⟨t,rfl⟩:=Value.isInt_shape Z;obtain⟨M,sU,J⟩:=L _ (aN ..);have sU:Value.isInt M (.int k t)=true:=sU;obtain⟨A,e2⟩:=Value.isInt_shape sU;have C:G=v:=C;have J:h=hashInt M:=J;subst C J;rw[<-(Value.int.inj e2).1];exact .cons R H
theorem EJ.dict_int (l:List (Int×Str))(j:nO ew pos ps l)(h0:ps≠[])(G:ps.length<=15)(Z:(l.map (·.1)).Nodup)
  (B:(evalEachOpt keys ew).zip ((evalEach values ew).map λ v=>do let x <-v;dv pos;aq x)=ps.map λ p=>(some p.1,p.2)):
  EJ pg w V A ew (.Dict keys values pos) st st (.eT (l.map λ p=>(p.1,.str p.2))):=λ I z s Q E k q=>by
 refine wpAny_Dict_pairs (knd:=intKind pg w) B h0 G (j.run λ X y hv=>?_);apply bd;intro D;obtain⟨C,u,U,g⟩:x13:=hv.kvs (pg:=pg) (w:=w);apply D;refine⟨C,u,Heap.DictOf.new _,λ R M r=>?_⟩;have m:merged [] C=C:=by rw[Nn (by simpa [U] using Z)];rfl
 rw[m] at M;apply bd;intro D;obtain⟨o,L,T,f,H,tI,Rp,Qd,_⟩:x3304:=M;apply D;have su:gP s.heap.objs.size (s.heap.push {cls:=.type "dict",data:=.dict #[]}) R:=r.extBut;have O:=dE k (aJ s.heap.objs.size);have d:OK pg w V ew st I z {s with heap:=R,toks:=y+X.length}:=Sc.yB k su;have k2:=d.freeze O f;have KB:o={cls:=.type "dict",data:=.dict (aM L.toList) T}:=by
  apply bd;intro D;obtain(⟨c,Y,SE,MX⟩):=o;obtain⟨e1,e2,J⟩:x03:=H;apply D;have e1:c=_:=e1;have e2:Y=_:=e2;have J:MX=_:=J;have tI:SE=_:=tI;rw[e1,e2,J,tI]
 refine q _ _ _ _ (Fa O.im) (.refl _) k2 rfl (.eT (ents:=L.toList) (n:=T) (by rw[Im.XV,KB]) ?_);refine Yg Qd (λ e H=>?_) (by rw[U];simp) (by rw[bz];exact g _ _);exact Rp e (by simpa using H)
theorem EJ.Ut (l:List (Int×Str))(G:nM keys values l)(h0:l≠[])(B:l.length<=15)(D:(l.map (·.1)).Nodup):
  EJ pg w V A ew (.Dict keys values pos) st st (.eT (l.map λ p=>(p.1,.str p.2))):=by
 apply bd;intro L;obtain⟨M,J,C,H⟩:x13:=G.pairs (ew:=ew) (pos:=pos);apply L;exact EJ.dict_int l J (λ e=>h0 (by subst e;exact List.eq_nil_of_length_eq_zero C.symm)) (YU C B) D H
noncomputable def rU (name:Str)(x:PV):List (Str×PV)->List (Str×PV)
 | []=>[(name,x)]
 |(n,y)::r=>if n==name then (n,x)::r else (n,y)::rU name x r
theorem zp {n name:Str}{t:Tok}:(Value.str n t).isStr name=(n==name):=by
 simp only[Value.isStr]
 try rfl
theorem bp.find:∀{fs:List (Str×PV)}{es:List dX}{name x},bp I ρ fs es->fs.lookup name=some x->∃e,es.find? (·.key.isStr name)=some e/\ce I ρ x e.val
 | [],_,_,_,_,h=>nomatch h
 |_::_,_,name,_,H,h=>by
  apply bd;intro B;obtain⟨_,_,_,_,rfl,C,r⟩:x4202:=H.inv;apply B;rw[cK] at h;rw[List.find?_cons,zp,BEq.comm]
  split at h
  .exact⟨_,rfl,Option.some.inj h▸C⟩
  .exact r.find h
theorem bp.find_none:∀{fs:List (Str×PV)}{es:List dX}{name},bp I ρ fs es->fs.lookup name=none->es.find? (·.key.isStr name)=none
 | [],_,_,H,_=>H.inv▸rfl
 |_::_,_,name,H,h=>by
  obtain⟨_,_,_,_,rfl,B,r⟩:x4202:=H.inv;rw[cK] at h;rw[List.find?_cons,zp,BEq.comm]
  split at h
  .exact nomatch h
  .exact r.find_none h
theorem bp.noRef (h:bp I ρ fs es):es.any (·.refKey)=false:=by
 induction h with
 |nil=>rfl
 |cons _ _ B=>exact B
theorem bp.length (h:bp I ρ fs es):es.length=fs.length:=by
 induction h with
 |nil=>rfl
 |cons _ _ B=>exact congrArg (· + 1) B
theorem bp.put (hx:ce I ρ x v)(H:bp I ρ fs es):bp I ρ (rU name x fs) (putL name h (.str name t) v es):=by
 induction H with
 |nil=>exact .cons hx .nil
 | @cons n _ _ _ _ _ _ C r B=>
  show bp _ _ (ite _ _ _) (ite ((Value.str n _).isStr name=true) _ _);rw[zp]
  cases n==name with
  |true=>exact .cons hx r
  |false=>exact .cons C B
theorem VM:∀{fs:List (Str×PV)},(rU name x fs).length<=fs.length+1:=by
 intro B
 induction B with
 |nil=>
  exact aJ _
 |cons D r C=>
  obtain(⟨n,y⟩):=D;show(ite _ _ _:List _).length<=_
  split
  .exact Nat.le_succ _
  .exact Nat.succ_le_succ C
def lp (V:Im)(K:Frag):Prop:=∀a o,K.lookup a=some o->V a=some o
structure kI (K:Frag)(C:Addr):Prop where
 ga:findIn K (.ref C) "__getattribute__"=some (some (.builtin "object.__getattribute__"))
 gk:findIn K (.ref C) "__getattr__"=some none
 sa:findIn K (.ref C) "__setattr__"=some (some (.builtin "object.__setattr__"))
 po:plainOver K C=true
section
variable {K:Frag}
theorem OK.fQ (k:OK pg w V ew st I ρ s)(X:lp V K):K.In s.heap:=λ a o e=>k.inv.lw a o (k.top a o (X a o e))
def u8 (pg:aK)(w:aA)(V:Im)(A:aD)(ew:aB)(v:PV)(name:Str)(st:PS)(r:PV):Prop:=
 ∀I ρ s Q E u,OK pg w V ew st I ρ s->ce I ρ v u->ZB pg w V ew st r I ρ s Q->ag (af pg w) A (getAttr u name true) Q E s
def bZ (pg:aK)(w:aA)(V:Im)(A:aD)(ew:aB)(v:PV)(name:Str)(x:PV)(st bv:PS):Prop:=
 ∀I ρ s Q E u t,OK pg w V ew st I ρ s->ce I ρ v u->ce I ρ x t->gx pg w V ew bv I ρ s (Q ())->ag (af pg w) A (setAttr u name t) Q E s
theorem EJ.attr {B}(J:EJ pg w V A ew value st al v)(O:u8 pg w V A ew v B al r)
  (D:eval (.Attribute value B pos) ew=(do
   let o <-eval value ew
   dv pos.atName
   let r <-holding [o] (getAttr o B true)
   letTemporaryGo value o r
   aq r):=by with_unfolding_all rfl):EJ pg w V A ew (.Attribute value B pos) st al r:=λ I T s Q E k q=>
 Attribute_any_ (J _ _ _ _ _ k λ R M U u L H N C G=>O _ _ _ _ _ _ N G (q.at L H C)) D
theorem SJ.jO (Y:EJ pg w V A ew value st al x)(R:EJ pg w V A ew o al bi v)(T:bZ pg w V A ew v attr x bi lv)
  (O:swapsWith value (some (.Attribute o attr pos')) pos.line ew=aq false:=by rfl):SJ pg w V A ew (.Assign [.Attribute o attr pos'] value pos) st lv .next:=λ I m s Q E k q=>
 plainObj_wpAny_Assign_Attribute (Y _ _ _ _ _ k λ i a n t Z U c b H=>R _ _ _ _ _ c λ g D l u C B f e N=>
  T _ _ _ _ _ _ _ f N (H.mono C B) λ j G h L d J M=>q _ _ _ _ ((Z.trans C).trans L) ((U.trans B).trans d) J (M.trans (e.trans b)) .next) O
theorem SJ.w5 (m:EJ pg w V A ew o st al v)(c:u8 pg w V A ew v attr al (.int a))(j:EJ pg w V A ew value al bi (.int b))(O:bZ pg w V A ew v attr (.int (a+b)) bi lv):
  SJ pg w V A ew (.AugAssign (.Attribute o attr tpos) .Add value pos) st lv .next:=λ I ρ s Q E k q=>
 wpAny_AugAssign_AttributeAny (m _ _ _ _ _ k λ z n s1 u T R Y p H=>c _ _ _ _ _ _ Y H λ x J s2 l D B r Z e=>j _ _ _ _ _ r λ I3 L X t C G h U g=>by
  obtain⟨_,rfl⟩:=e.inv;obtain⟨_,rfl⟩:=g.inv;refine PyProof.Rows.iadd_int ?_;exact O _ _ _ _ _ _ _ h.toks (H.mono (D.trans C) (B.trans G)) (.int _ _) λ y f s4 N d M i=>
   q _ _ _ _ (((T.trans D).trans C).trans N) (((R.trans B).trans G).trans d) M (i.trans (U.trans (Z.trans p))) .next)
theorem SJ.VB (m:EJ pg w V A ew o st al v)(c:u8 pg w V A ew v attr al (.int a))(j:EJ pg w V A ew value al bi (.int b))(O:bZ pg w V A ew v attr (.int (a - b)) bi lv):
  SJ pg w V A ew (.AugAssign (.Attribute o attr tpos) .Sub value pos) st lv .next:=λ I ρ s Q E k q=>
 wpAny_AugAssign_AttributeAny (m _ _ _ _ _ k λ z n s1 u T R Y p H=>c _ _ _ _ _ _ Y H λ x J s2 l D B r Z e=>j _ _ _ _ _ r λ I3 L X t C G h U g=>by
  obtain⟨_,rfl⟩:=e.inv;obtain⟨_,rfl⟩:=g.inv;refine PyProof.Rows.isub_int ?_;exact O _ _ _ _ _ _ _ h.toks (H.mono (D.trans C) (B.trans G)) (.int _ _) λ y f s4 N d M i=>
   q _ _ _ _ (((T.trans D).trans C).trans N) (((R.trans B).trans G).trans d) M (i.trans (U.trans (Z.trans p))) .next)
theorem BO {n:Nat}(k:OK pg w V ew st I ρ s)(G:st.ph[n]? = some (.inst C fs))(e:ρ[n]? = some (a::r)):
  ∃B es m,r=[B]/\s.heap.get? B=some (dictOf es m)/\bp I ρ fs es/\InstAt s.heap a {cls:=.ref C,dict:=some B,data:=.plain} C (some (dictOf es m)):=by
 apply bd;intro L;obtain⟨x,B,es,m,M,J,D,H⟩:x4203:=k.inv.obj n _ _ G e;obtain⟨rfl,rfl⟩:x02:=List.cons.inj M;apply L;exact⟨B,es,m,rfl,D,H,⟨J,rfl,rfl,D⟩⟩
theorem J3 (h:ce I ρ x v)(B:∀m,x≠.blt m):handedIn v=true:=
 ce.casesOn (motive_1:=λ x v _=>(∀m,x≠.blt m)->handedIn v=true) h (λ _=>rfl) (λ _ _=>rfl) (λ _ _ _=>rfl) (λ _ _ _=>rfl) (λ _ _ _=>rfl) (λ _ _ _=>rfl) (λ _ _=>rfl) (λ _ _=>rfl) (λ _ _=>rfl) (λ _ h=>absurd rfl (h _)) (λ _ _ _=>rfl) (λ _ _ _=>rfl) (λ _ _ _=>rfl) (λ _ _=>rfl) B
theorem u8.inst (X:lp V K)(c:kI K C)(B:(clsIn K C).any (·.hasDict)=true)(M:st.ph[n]? = some (.inst C fs))(hx:fs.lookup name=some x)(H:findIn K (.ref C) name=some none)(G:∀m,x≠.blt m):
  u8 pg w V A ew (.ref n) name st x:=λ I d s Q E u k N q=>by
 apply bd;intro Y;obtain⟨_,_,rfl,e⟩:=N.inv;obtain⟨Z,L,m,rfl,f,R,T⟩:=BO k M e;obtain⟨U,J,B⟩:=any_some B;obtain⟨en,O,D⟩:=R.find hx;apply Y;refine get_value (k.fQ X) T c.ga ?_ (J3 D G) (q.toks k D);unfold findObj;rw[J,Option.bind_some,H,Option.bind_some];have:W.ownOf U (some (dictOf L m)) name=some (some en.val):=by
  unfold W.ownOf lookIn;rw[if_pos B];simp only[];rw[O]
 rw[this]
 rfl
theorem bZ.inst (X:lp V K)(c:kI K C)(g:(clsIn K C).any (·.hasDict)=true)(o:st.ph[n]? = some (.inst C fs))(d:findIn K (.ref C) name=some none)(hz:fs.length<100):
  bZ pg w V A ew (.ref n) name x st {st with ph:=st.ph.set n (.inst C (rU name x fs))}:=λ I ρ s Q E u t k p Y q=>by
 apply bd;intro y;obtain⟨a,_,rfl,e⟩:=p.inv;obtain⟨B,G,m,rfl,D,U,M⟩:=BO k o e;obtain⟨cd,j,O⟩:=any_some g;apply y;have yW:takerIn K C name=some none:=by unfold takerIn;rw[d];rfl
 refine set_plain (k.fQ X) M c.sa ?_;refine osa_open (s:={s with toks:=s.toks+1}) (k.fQ X) M c.po yW λ b=>?_
 have N:=M.at_;refine aa (ah (aa (aa (wpAny_loadPart N (aa (looks_clsIn (k.fQ X) j _ _ _ _ (λ _ _ e=>e) ?_))))));rw[O];refine ah (a:=some B) (aa (ah (aa ?_)));unfold nsSet;refine aa (aa (wpAny_askSetting (ah (aa (wpAny_mkText (aa (wpAny_loadPart D ?_)))))));dsimp only;have f:(!G.toArray.any (·.key.isStr name)&&G.toArray.any (·.refKey))=false:=by
  rw[<-Array.any_toList,<-Array.any_toList,show(aM G).toList=G from rfl,U.noRef,Bool.and_false]
 rw[aRefKeyMayBeTheName_at,f];refine wpAny_updatePart D ?_;have R:(s.heap.update B (Obj.putName name (nG w.params name) (.str name (s.toks+1)) t)).get? B=some (dictOf (putL name (nG w.params name) (.str name (s.toks+1)) t G) (putN name G m)):=by
  have:=eG (Obj.putName name (nG w.params name) (.str name (s.toks+1)) t) D (by rw[putName_dict];rfl);rw[this,putName_dict]
 have J:(putL name (nG w.params name) (.str name (s.toks+1)) t G).length=(rU name x fs).length:=(U.put (h:=nG w.params name) (t:=s.toks+1) (name:=name) Y).length;refine aa (wpAny_lookBehind R (pastItsLine_dict (by rw[dJ,J];exact av VM (av hz (by rw[ak];decide)))) ?_);have nd:=k.inv.wv;have H:a≠B:=by
  have r:[a,B].Nodup:=List.Nodup.sublist (List.sublist_flatten_of_mem (eX e)) nd;exact λ q=>(c8.mp r).1 (q▸.head _)
 have T:ba B s.heap (s.heap.update B (Obj.putName name (nG w.params name) (.str name (s.toks+1)) t)):=gf ..;refine ah (q _ _ _ (.refl _) (.refl _) (k.setAt (tk:=s.toks+1+1) e (λ b ob L e'=>(T.2 b (λ z=>L (z▸.tail _ (.head _)))).trans e') (λ b L=>?_) ?_) rfl)
 .exact(aG.mp L).elim (λ z=>by subst z;exact⟨_,(T.2 _ H).trans N⟩) λ z=>by obtain rfl:=aO.mp z;exact⟨_,R⟩
 .exact⟨a,B,_,_,rfl,(T.2 _ H).trans N,R,U.put Y⟩
end
section
open Builtin Builtin.ObjectAttr Builtin.Getset_descriptor
structure mR (K:Frag)(C:Addr)(name:Str)(p:Addr)(i:Nat):Prop where
 hf:findIn K (.ref C) name=some (some (.ref p))
 hn:specialIn K (.ref p) "__get__"=some (some (.builtin "member_descriptor.__get__"))
 ht:takesIn K (.ref p)=some true
 ty:typeIn K (.ref p)=some (.type "member_descriptor")
 at_:slotIn K p C=some i
 lt:i<1000
noncomputable def BK (i:Nat)(x:PV)(vs:List (Option PV)):List (Option PV):=(vs++dy (i+1 - vs.length) none).set i (some x)
theorem Ty.length (h:Ty I ρ vs sl):sl.length=vs.length:=by
 induction h with
 |nil=>rfl
 |none _ B|some _ _ B=>exact congrArg (· + 1) B
theorem Ty.append {eL JZ}(h:Ty I ρ vs sl)(k:Ty I ρ eL JZ):Ty I ρ (vs++eL) (sl++JZ):=by
 induction h with
 |nil=>exact k
 |none _ B=>exact .none B
 |some a _ B=>exact .some a B
theorem Ty.rep:∀n,Ty I ρ (dy n Option.none) (dy n Option.none):=by
 intro B
 induction B with
 |zero=>
  exact .nil
 |succ n C=>
  exact .none (C)
theorem Ty.set (hx:ce I ρ x v)(h:Ty I ρ vs sl):∀i,Ty I ρ (vs.set i (Option.some x)) (sl.set i (Option.some v)):=by
 induction h with
 |nil=>exact λ _=>.nil
 |none h B=>exact λ i=>i.casesOn (.some hx h) λ i=>.none (B i)
 |some C h B=>exact λ i=>i.casesOn (.some hx h) λ i=>.some C (B i)
theorem Ty.get (h:Ty I ρ vs sl):∀{i:Nat},vs[i]? = Option.some (Option.some x)->∃v,sl[i]? = Option.some (Option.some v)/\ce I ρ x v:=by
 induction h with
 |nil=>exact λ e=>nomatch e
 |none h B=>exact λ{i}=>i.casesOn (λ e=>bu (Option.some.inj e)) λ i e=>B e
 |some C h B=>exact λ{i}=>i.casesOn (λ e=>⟨_,rfl,Option.some.inj (Option.some.inj e)▸C⟩) λ i e=>B e
theorem Ty.put (h:Ty I ρ vs sl)(hx:ce I ρ x v):Ty I ρ (BK i x vs) ((sl++dy (i+1 - sl.length) Option.none).set i (Option.some v)):=by
 unfold BK;rw[h.length];exact(h.append (Ty.rep _)).set hx i
section
variable {K:Frag}
noncomputable abbrev Ez (C dx:Addr)(sl:List (Option Value)):Obj:={cls:=.ref C,dict:=some dx,data:=.plain,slots:=aM sl}
theorem FQ {n:Nat}(k:OK pg w V ew st I ρ s)(H:st.ph[n]? = some (.slots C vs))(e:ρ[n]? = some (a::r)):
  ∃B D,r=[B]/\s.heap.get? B=some emptyDict/\Ty I ρ vs D/\InstAt s.heap a (Ez C B D) C (some emptyDict):=by
 apply bd;intro M;obtain⟨x,B,D,N,L,G,J⟩:=k.inv.obj n _ _ H e;obtain⟨rfl,rfl⟩:x02:=List.cons.inj N;apply M;exact⟨B,D,rfl,G,J,⟨L,rfl,rfl,G⟩⟩
theorem u8.slots (X:lp V K)(c:kI K C)(S:mR K C name p i)(N:st.ph[n]? = some (.slots C vs))(hx:vs[i]? = some (some x))(J:∀m,x≠.blt m):
  u8 pg w V A ew (.ref n) name st x:=λ I d s Q E u k O q=>by
 apply bd;intro U;obtain⟨_,_,rfl,e⟩:=O.inv;obtain⟨Y,M,rfl,f,T,G⟩:x24:=FQ k N e;obtain⟨v,R,D⟩:=T.get hx;apply U;have B:(clsIn K C).isSome=true:=by obtain⟨Z,L,_⟩:=any_some c.po;rw[L];rfl
 refine get_bind (k.fQ X) G c.ga (findObj_data B S.hf S.hn S.ht) c.gk (wpAny_call (slot_get (s:={s with toks:=s.toks+1}) (k.fQ X) G S.at_ ?_ (handed_on (J3 D J) (q.toks k D))));show((aM M)[i]?).join=some v;rw[gR,R];rfl
theorem TR {s:ae}{p x C:Addr}{Z:Obj}{N:Option Obj}{v:Value}{i:Nat}{R:Result->ae->Prop}(X:K.In s.heap)(H:InstAt s.heap x Z C N)(I:slotIn K p C=some i)(hi:i<1000)
  (h:R (.ok (.ret .none)) {s with heap:=s.heap.update x λ o=>{o with slots:=(o.slots++nH (i+1 - o.slots.size) none).setIfInBounds i (some v)}}):
  codeAny (af pg w) A (.call (.builtin "member_descriptor.__set__") ⟨[.ref p,.ref x,v],[]⟩) R s:=by
 apply bd;intro f;obtain⟨n,Y,D,B,U,d,r,c,G,Q,V,T,rfl⟩:x21214204:=slot_of X I;obtain(⟨L,g,m,t,os⟩):=s;apply f;have E:=H.type (M:=af pg w);have O:=looks_mroIn (M:=af pg w) X V;have u:Looks (af pg w) L (Slots.slotNamesOf (.ref C)) c.slotNames:=(looks_clsIn X Q).andThen .now;have J:=H.at_;dsimp only at G J E O;have z:=looks_field (M:=af pg w) G 0 (v:=.str n Y) rfl;have j:=looks_field (M:=af pg w) G 1 (v:=D) rfl;have y:=looks_field (M:=af pg w) G 3 (v:=.builtin "proto.slot#set") rfl;have q:=looks_field (M:=af pg w) G 4 (v:=.int B U) rfl;refine codeAny_call_builtin KF.slot_mset.plain KF.entry_mset (KF.slot_mset.check _ _ _ _ _ _ _ _ ⟨_,G,rfl⟩ (KF.args_mset _ _ _) ?_);unfold Builtin.«member_descriptor.__set__» descrSet descrStoreThrough descrCheckInstance descrNameAndClass isInstance;have k:Looks (af pg w) L (descrItself (.ref p)) [.ref p]:=((Looks.ld (part:=none) G).andThen .now).andThen (Looks.of_pure (by kernel_rfl))
 repeat lk
 refine⟨lL _ (by decide +kernel),gd KF.entry_slotset ?_⟩;unfold Builtin.«proto.slot#set» Slots.target
 repeat lk
 rw[if_neg T];refine ah (aa ?_);unfold setSlotAt;dsimp only;rw[if_neg (Nat.not_le.mpr (gb hi (by rw[ak];decide)))];exact wpAny_updatePart J (ah h)
theorem bZ.slots (X:lp V K)(c:kI K C)(S:mR K C name p i)(U:st.ph[n]? = some (.slots C vs)):
  bZ pg w V A ew (.ref n) name x st {st with ph:=st.ph.set n (.slots C (BK i x vs))}:=λ I j s Q E u t k Y T q=>by
 obtain⟨a,_,rfl,e⟩:=Y.inv;obtain⟨H,B,rfl,D,Z,M⟩:x24:=FQ k U e;have yW:takerIn K C name=some (some (.ref p)):=by unfold takerIn;rw[S.hf];simp[S.ht]
 refine set_plain (k.fQ X) M c.sa (osa_descr (s:={s with toks:=s.toks+1}) KF.slot_mset (k.fQ X) M c.po yW S.ty (TR (s:={s with toks:=s.toks+1}) (k.fQ X) M S.at_ S.lt ?_));have R:=M.at_;have J:a≠H:=by
  have d:[a,H].Nodup:=List.Nodup.sublist (List.sublist_flatten_of_mem (eX e)) k.inv.wv;exact λ q=>(c8.mp d).1 (q▸.head _)
 have O:(s.heap.update a λ o=>{o with slots:=(o.slots++nH (i+1 - o.slots.size) none).setIfInBounds i (some t)}).get? a=some (Ez C H ((B++dy (i+1 - B.length) none).set i (some t))):=by
  have:=eG (λ o:Obj=>{o with slots:=(o.slots++nH (i+1 - o.slots.size) none).setIfInBounds i (some t)}) R (by rfl);rw[this];have e1:((aM B)++nH (i+1 - (aM B).size) none).setIfInBounds i (some t)=aM ((B++dy (i+1 - B.length) none).set i (some t)):=by
   apply Array.ext'
   simp
  show some ({cls:=.ref C,dict:=some H,data:=.plain,slots:=((aM B)++nH (i+1 - (aM B).size) none).setIfInBounds i (some t)}:Obj)=_;rw[e1]
 have N:ba a s.heap (s.heap.update a λ o=>{o with slots:=(o.slots++nH (i+1 - o.slots.size) none).setIfInBounds i (some t)}):=gf ..;refine q _ _ _ (.refl _) (.refl _) (k.setAt (tk:=s.toks+1) e (λ b g G f=>(N.2 b (λ z=>G (z▸.head _))).trans f) (λ b G=>?_) ?_) rfl
 .rcases aG.mp G with rfl|G
  .exact⟨_,O⟩
  .obtain rfl:=aO.mp G;exact⟨_,(N.2 _ J.symm).trans D⟩
 .exact⟨a,H,_,rfl,O,(N.2 _ J.symm).trans D,Z.put T⟩
def cW (pg:aK)(w:aA)(V:Im)(A:aD)(ew:aB)(v:PV)(st:PS)(name:Str)(f:Addr):Prop:=
 ∀I ρ s Q E u pl,OK pg w V ew st I ρ s->ce I ρ v u->Q (.ref f,[u]) s->ag (af pg w) A (getMethod u name pl) Q E s
theorem cW.inst (X:lp V K)(c:kI K C)(J:st.ph[n]? = some (.inst C fs))(H:findIn K (.ref C) name=some (some (.ref f)))(G:typeIn K (.ref f)=some (.type "function"))(N:fs.lookup name=none):
  cW pg w V A ew (.ref n) st name f:=λ I Z s Q E u Y k L q=>by
 apply bd;intro R;obtain⟨_,_,rfl,e⟩:=L.inv;obtain⟨T,U,m,rfl,d,B,O⟩:=BO k J e;apply R;refine method_fn (k.fQ X) O c.ga c.gk H G ?_ q;unfold shadowIn lookIn;have M:=B.find_none N;have D:=B.noRef;simp only[M,D]
 rfl
theorem EJ.fy {bn}{c:Sem Bool}(d:EJ pg w V A ew o st al v)(Z:cW pg w V A ew v al name f)(b:am pg w V A ew args al bi vs)
  (a:V f=some ob) (U:ob.data = .func fd) (N:nb pg w V j f (v::vs) [] bi.ph bn r) (R:wn A j) (C:Uf A ew bi.fs)
  (M:eval (.Call (.Attribute o name apos) args [] pos) ew=(do
   let ov <-eval o ew
   dv apos.atName
   let (f,first) <-holding [ov] (getMethod ov name c)
   du pos f first (backTo pos (starEach args ew)) []):=by rfl):
  EJ pg w V A ew (.Call (.Attribute o name apos) args [] pos) st {bi with ph:=bn} r:=λ I p s Q E k q=>by
 rw[M];refine aa (d _ _ _ _ _ k λ i e m u T O H g J=>aa (a9 (aa (aQ (Z _ _ _ _ _ _ _ H J ?_)))));refine callWith_function (o:=ob) (fd:=fd) (fV b H λ h L n l G D B Y KM=>⟨⟨B.inv.lw _ _ (B.top _ _ a),U⟩,?_⟩);exact N _ _ _ _ _ _ _ _ _ _ R C rfl B (.cons (J.mono G D) KM) ⟨rfl,.nil⟩ (q.at (T.trans G) (O.trans D) (Y.trans g))
end
end
section
open Builtin Builtin.ObjectAttr Builtin.Getset_descriptor
structure tY (K:Frag)(C fI:Addr):Prop where
 keep:keepIn K (.ref C)=true
 made:makesIn K C=true
 init:findIn K (.ref C) "__init__"=some (some (.ref fI))
 fn:typeIn K (.ref fI)=some (.type "function")
theorem wn.zy {A:aD}{k:Nat}{C:Addr}{rest:List Value}{B:List (Str×Value)}(h:wn A (k+1)):wn (A.under (.builtin "type.__call__" ⟨.ref C::rest,B⟩)) k:=by
 have D:=h.depth;have H:=h.units;refine⟨by rw[depth_under_kw];first|exact AP D|exact c7 (nj (Nat.le_succ k) _) D,?_,h.handled⟩;have G:(Code.builtin "type.__call__" ⟨.ref C::rest,B⟩).cUnits<=10:=by
  rw[show(Code.builtin "type.__call__" ⟨.ref C::rest,B⟩).cUnits=(Code.builtin "type.__call__" ⟨.ref 0::[],[]⟩).cUnits from rfl]
  decide +kernel
 exact ug _ H (av G (by decide))
theorem Uf.zy {A:aD}{ew:aB}{fs:List (Addr×Data)}{C:Addr}{rest:List Value}{D:List (Str×Value)}(h:Uf A ew fs):Uf (A.under (.builtin "type.__call__" ⟨.ref C::rest,D⟩)) ew fs:=by
 obtain⟨B,e,r⟩:=h.stack;refine⟨B,?_,r⟩;unfold Around.under
 rewrite [e];rfl
section
variable {K:Frag}
theorem EJ.make {bn}(o:PO)(z:o = .inst C []\/o = .slots C [])(X:lp V K)(M:tY K C fI)(h1:EJ pg w V A ew func st al (.obj C))(U:am pg w V A ew args al bi vs)
  (h3:mD pg w V k fI (.ref bi.ph.length::vs) [] (bi.ph++[o]) bn .none) (R:wn A (k+1)) (Z:Uf A ew bi.fs)
  (f:eval (.Call func args [] pos) ew=(do du pos (<-eval func ew) [] (backTo pos (starEach args ew)) []):=by rfl):
  EJ pg w V A ew (.Call func args [] pos) st {bi with ph:=bn} (.ref bi.ph.length):=λ I ρ s Q E h q=>by
 rw[f];refine aa (h1 _ _ _ _ _ h λ I1 ρ1 s1 v u p cX o1 hv=>?_);obtain(⟨_,rfl⟩):=hv.inv;refine callWith_of (P:=K.In) ?_ (keeps_K M.keep) (fV U cX λ N D s2 us r j PP c KM=>⟨PP.fQ X,?_⟩)
 .rw[jV (js U).1];rfl
 refine wpAny_call ?_;obtain(⟨B,g,d,t,os⟩):=s2;refine make_core (makes_of (PP.fQ X) M.made) (looks_findIn (PP.fQ X) M.init) (λ G=>bind_fn (PP.fQ X) G M.fn) (.inl rfl) ?_;have L:((B.push emptyDict).push (instObj C B.objs.size)).get? (B.objs.size+1)=some (instObj C B.objs.size):=by heap_get
 have Bl:((B.push emptyDict).push (instObj C B.objs.size)).get? B.objs.size=some emptyDict:=bH _ (cj _ rfl);have kp:Pi B ((B.push emptyDict).push (instObj C B.objs.size)):=(Pi.push _ _).trans (Pi.push _ _);have m:OK pg w V ew {bi with ph:=bi.ph++[o]} N (D++[[B.objs.size+1,B.objs.size]]) ⟨(B.push emptyDict).push (instObj C B.objs.size),g,d,t,os⟩:=by
  refine PP.new (s:=⟨B,g,d,t,os⟩) (tk:=t) kp (λ a H=>?_) (by simp) (λ a H=>?_) ?_
  .simp at H
   show @LE.le Nat _ B.objs.size a
   rcases H with rfl|rfl
   .exact Nat.le_succ _
   .exact aJ _
  .simp at H
   rcases H with rfl|rfl
   .exact⟨_,L⟩
   .exact⟨_,Bl⟩
  .rcases z with rfl|rfl
   .exact⟨_,_,[],0,rfl,L,Bl,.nil⟩
   .exact⟨_,_,[],rfl,L,Bl,.nil⟩
 have J:ce N (D++[[B.objs.size+1,B.objs.size]]) (.ref bi.ph.length) (.ref (B.objs.size+1)):=.ref (tP PP.inv.len.symm);refine h3 _ ew {bi with ph:=bi.ph++[o]} _ _ _ _ _ _ R.zy Z.zy rfl m (.cons J (KM.mono (.refl _) pu.push)) ⟨rfl,.nil⟩ λ I3 Y s3 v3 O T k3 y tN=>?_
 obtain(⟨_,rfl⟩):=tN.inv;exact⟨rfl,q _ _ _ _ ((u.trans r).trans O) (((p.trans j).trans pu.push).trans T) k3 (y.trans (c.trans o1)) (J.mono O T)⟩
end
end
noncomputable def bE (es:List (Str×PV))(k:Str)(x:PV):List (Str×PV):=
 if es.any (λ kv=>kv.1=k) then es.map (λ kv=>if kv.1=k then (kv.1,x) else kv) else es++[(k,x)]
noncomputable def mA (es:List (Str×PV))(k:Str):List (Str×PV):=es.filter λ kv=>decide (kv.1≠k)
theorem Vq {n k:Str}:decide (n=k)=(k==n):=by rw[(iE),(decide_eq_true_iff),(beq_iff_eq)];exact eq_comm
theorem JV {es:List (Str×PV)}{kvs:List (Str×Value)}(h:es.map (·.1)=kvs.map (·.1)):es.length=kvs.length:=by rw[<-aE (f:=(·.1)),h,aE]
theorem J4 {es:List (Str×PV)}{kvs:List (Str×Value)}{k:Str}(h:es.map (·.1)=kvs.map (·.1)):es.any (λ B=>decide (B.1=k))=kvs.any (λ B=>decide (B.1=k)):=by
 have z:=congrArg (λ l=>List.any l λ n=>decide (n=k)) h;rw[List.any_map,List.any_map] at z;exact z
theorem xD {k:Str}{es:List (Str×PV)}{kvs:List (Str×Value)}(G:es.map (·.1)=kvs.map (·.1))(D:lm I ρ (es.map (·.2)) (kvs.map (·.2))):
  (∀x,es.lookup k=some x->∃v,valueAt kvs k=some v/\ce I ρ x v)/\(es.lookup k=none->valueAt kvs k=none):=by
 refine v9 (P:=λ es kvs=>(∀x,es.lookup k=some x->∃v,valueAt kvs k=some v/\ce I ρ x v)/\(es.lookup k=none->valueAt kvs k=none)) ⟨λ x e=>(nomatch e),λ _=>rfl⟩ (λ{n _ _ _ _} C B=>?_) G D;unfold valueAt at B ⊢;rw[cK,List.find?_cons,Vq];dsimp only;cases k==n
 .exact B
 .exact⟨λ x e=>⟨_,rfl,Option.some.inj e▸C⟩,λ e=>nomatch e⟩
theorem Vc {k:Str}(hx:ce I ρ x v){es:List (Str×PV)}{kvs:List (Str×Value)}(C:es.map (·.1)=kvs.map (·.1))(G:lm I ρ (es.map (·.2)) (kvs.map (·.2))):
  (bE es k x).map (·.1)=(stored kvs k v).map (·.1)/\lm I ρ ((bE es k x).map (·.2)) ((stored kvs k v).map (·.2)):=by
 unfold bE stored;rw[J4 C]
 split
 .refine v9 (P:=λ es kvs=>(es.map (λ B=>if B.1=k then (B.1,x) else B)).map (·.1)=(kvs.map (λ B=>if B.1=k then (B.1,v) else B)).map (·.1) /\
   lm I ρ ((es.map (λ B=>if B.1=k then (B.1,x) else B)).map (·.2)) ((kvs.map (λ B=>if B.1=k then (B.1,v) else B)).map (·.2))) ⟨rfl,.nil⟩ (λ{n _ _ _ _} H D=>?_) C G
  rw[aL,aL,aL,aL];dsimp only
  split<;>exact⟨congrArg (n :: ·) D.1,.cons (by assumption) D.2⟩
 .rw[aY,aY,aY,aY,C];exact⟨rfl,G.append (.cons hx .nil)⟩
theorem Sd {k:Str}{es:List (Str×PV)}{kvs:List (Str×Value)}(D:es.map (·.1)=kvs.map (·.1))(C:lm I ρ (es.map (·.2)) (kvs.map (·.2))):
  (mA es k).map (·.1)=(without kvs k).map (·.1)/\lm I ρ ((mA es k).map (·.2)) ((without kvs k).map (·.2)):=by
 refine v9 (P:=λ es kvs=>(mA es k).map (·.1)=(without kvs k).map (·.1)/\lm I ρ ((mA es k).map (·.2)) ((without kvs k).map (·.2))) ⟨rfl,.nil⟩ (λ{n _ _ _ _} G B=>?_) D C;unfold mA without at B ⊢;rw[List.filter_cons,List.filter_cons];dsimp only
 split
 .exact⟨congrArg (n :: ·) B.1,.cons G B.2⟩
 .exact B
theorem jM {n:Nat}(N:cB V)(k:OK pg w V ew st I ρ s)(D:st.ph[n]? = some (.dict es ep))(e:ρ[n]? = some (a::r)):
  r=[]/\(a==sysModules)=false/\∃kvs m,s.heap.DictAt (aW pg w) a kvs m/\(∀C,ep=some C->m=C)/\es.map (·.1)=kvs.map (·.1)/\lm I ρ (es.map (·.2)) (kvs.map (·.2)):=by
 apply bd;intro B;obtain⟨R,kvs,m,H,M,L,J,G⟩:=k.inv.obj n _ _ D e;obtain⟨rfl,rfl⟩:x02:=List.cons.inj H;apply B;refine⟨rfl,?_,kvs,m,M,L,J,G⟩;rw[(beq_eq_false_iff_ne)];apply bd;intro B;obtain⟨o,O,_⟩:=N;apply B;exact λ q=>bu ((k.inv.out a (k.inv.mem e (.head _))).1.symm.trans (q▸k.top _ _ O))
theorem CJ.in_dict {c:Str}(T:cB V)(H:st.ph[n]? = some (.dict es ep)):CJ pg w V A ew .In (.str c) (.ref n) st (es.lookup c).isSome:=λ I Y s Q E u v k J O q=>by
 obtain⟨_,rfl⟩:=J.inv;obtain⟨_,_,rfl,e⟩:=O.inv;obtain⟨rfl,B,C,m,R,U,N,M⟩:x0324:=jM T k H e;refine wpAny_in_of (knd:=aW pg w) (k:=c) (PySem.strKind_is ..) B R.dictOf.mapOf ?_;have:(valueAt C c).isSome=(es.lookup c).isSome:=by
  obtain⟨L,G⟩:x02:=xD (k:=c) N M
  cases D:es.lookup c with
  |none=>rw[G D];rfl
  |some x=>obtain⟨v,e1,_⟩:=L x D;rw[e1];rfl
 rw[this];exact q.toks k (.bool _)
theorem GJ.dict {c:Str}(O:cB V)(G:st.ph[n]? = some (.dict es ep))(hx:es.lookup c=some x):GJ pg w V A ew (.ref n) (.str c) st x:=λ I T s Q E u v k H N q=>by
 apply bd;intro M;obtain⟨_,rfl⟩:=N.inv;obtain⟨_,_,rfl,e⟩:=H.inv;obtain⟨rfl,C,D,m,B,R,L,J⟩:x0324:=jM O k G e;obtain⟨v,e1,e2⟩:=(xD (k:=c) L J).1 x hx;apply M;exact⟨"dict",_,F.slot_dict_getitem.lookup,B.dictOf.typeIs,wpAny_getItem_of (knd:=aW pg w) (PySem.strKind_is ..) B.dictOf.mapOf e1 (q.toks k e2)⟩
theorem on.dict {name:Str}{id:String}(M:cB V)(H:st.ph[n]? = some (.dict es ep))(slot:Slot "dict" name id)(C:typeOf (.builtin id)=aq (.type "method_descriptor")):on pg w V A ew (.ref n) st name id:=λ I T s Q E u O k J q=>by
 apply bd;intro L;obtain⟨_,_,rfl,e⟩:=J.inv;obtain⟨rfl,D,G,m,B,U,R,N⟩:x0324:=jM M k H e;apply L;exact getMethod_builtin B.dictOf.typeIs F.plainAttrs_dict slot C B.dictOf.mapOf.noDict q
theorem on.om (C:cB V)(B:st.ph[n]? = some (.dict es ep)):on pg w V A ew (.ref n) st "get" "dict.get":=on.dict C B F.slot_dict_get F.type_dict_get
theorem on.dict_values (C:cB V)(B:st.ph[n]? = some (.dict es ep)):on pg w V A ew (.ref n) st "values" "dict.values":=on.dict C B F.slot_dict_values F.type_dict_values
theorem ds.om {c:Str}(U:cB V)(J:st.ph[n]? = some (.dict es ep)):ds pg w V A ew (.builtin "dict.get") [.ref n,.str c] st st ((es.lookup c).getD .none):=λ I Z s Q E d k jp q=>by
 apply bd;intro R;obtain⟨v,u,rfl,T,L⟩:=gq jp;obtain⟨_,rfl⟩:=L.inv;obtain⟨_,_,rfl,e⟩:=T.inv;obtain⟨rfl,C,G,m,D,Y,O,N⟩:x0324:=jM U k J e;apply R;refine call_meetsIn F.slot_dict_get D.dictOf.typeIs F.entry_dict_get (F.args_dict_get_2 _ _) (meets_dict_get (aW pg w) _ (k:=c) (PySem.strKind_is ..) C) ⟨_,D.dictOf.mapOf,?_⟩;obtain⟨M,H⟩:x02:=xD (k:=c) O N;show Q _ _
 cases B:es.lookup c with
 |none=>rw[H B];rw[B] at q;exact q.toks k .none
 |some x=>obtain⟨v,e1,e2⟩:=M x B;rw[e1];rw[B] at q;exact q.toks k e2
theorem ds.dict_values (L:cB V)(G:st.ph[n]? = some (.dict es ep)):ds pg w V A ew (.builtin "dict.values") [.ref n] st st (.vals n):=λ I R s Q E T k jp q=>by
 apply bd;intro H;obtain⟨v,rfl,J⟩:=cz jp;obtain⟨_,_,rfl,e⟩:=J.inv;obtain⟨rfl,B,D,m,C,M,O,N⟩:x0324:=jM L k G e;apply H;refine call_meetsIn F.slot_dict_values C.dictOf.typeIs F.entry_dict_values (F.args_dict_values_1 _) (meets_dict_values (aW pg w) _ B) ⟨⟨_,C.dictOf⟩,?_⟩;exact q.put k rfl (.vals e (Im.XV ..))
theorem EJ.Fg (ep:Option Nat)(B:ep=none\/ep=some 0):EJ pg w V A ew (.Dict [] [] pos) st {st with ph:=st.ph++[.dict [] ep]} (.ref st.ph.length):=λ I D s Q E k q=>by
 refine wpAny_Dict_empty ?_;have dR:(s.heap.push {cls:=.type "dict",data:=.dict #[]}).get? s.heap.objs.size=some {cls:=.type "dict",data:=.dict #[]}:=cj _ rfl;have C:(s.heap.push {cls:=.type "dict",data:=.dict #[]}).DictAt (aW pg w) s.heap.objs.size [] 0:=
  ⟨_,#[],dR,⟨rfl,rfl,rfl⟩,rfl,(λ e B=>absurd B (Array.not_mem_empty e)),.nil,List.nodup_nil⟩
 exact ZB.wG (po:=.dict [] ep) k rfl ⟨_,[],0,rfl,C,(λ m e=>by rcases B with rfl|rfl;exact nomatch e;exact Option.some.inj e),rfl,.nil⟩ q
theorem EJ.VE:EJ pg w V A ew (.Dict [] [] pos) st {st with ph:=st.ph++[.dict [] none]} (.ref st.ph.length):=EJ.Fg none (.inl rfl)
theorem Q1 {d:Addr}{kvs:List (Str×Value)}{k:Str}{J v:Value}{m:Nat}{s:ae}{Q:Unit->ae->Prop}(B:(aW pg w).is k J=true)(V:s.heap.DictAt (aW pg w) d kvs m)
  (N:∀h',h'.DictAt (aW pg w) d (stored kvs k v) (if kvs.any (λ D=>D.1=k) then m else m+1)->ba d s.heap h'->Q () {s with heap:=h',toks:=s.toks+1}) (T:kvs.length<=aH):
  ag (af pg w) A (dictSet d J v) Q E s:=by
 apply bd;intro c;obtain⟨o,C,H,Z,G,O,M,R⟩:x2403:=V;apply c;have Pk:C.size<=aH:=av (dK M.length) T;unfold dictSet;refine aQ (aa ((aW pg w).pyHash B ?_));unfold dictSetHashed;refine aQ (aa (wpAny_dictFind_of (s:={s with toks:=s.toks+1}) B H G O ?_));have vY:(C.findIdx? λ e=>(aW pg w).is k e.key)=kvs.findIdx? λ D=>decide (D.1=k):=by
  rw[<-M.findIdx k];obtain⟨l⟩:=C;simp
 cases U:C.findIdx? λ e=>(aW pg w).is k e.key with
 |some i=>
  have L:=any_of_findIdx_some (vY▸U);rw[if_pos L] at N;refine aa (fE (aa (wpAny_updateDict (s:={s with toks:=s.toks+1}) H G (wpAny_point (N _ ⟨_,_,eG _ H (Obj.isFreed_of_dict (Obj.data_mapDict G _)),
   Z.mapDict _,Obj.data_mapDict G _,O.modify _ _,?_,?_⟩ (gf ..))))))
  .rw(config:={})[stored,if_pos L]
   have I:(C.toList.findIdx? λ e=>(aW pg w).is k e.key)=some i:=by rw[<-U];obtain⟨l⟩:=C;simp
   have:=M.modify R I v;obtain⟨l⟩:=C
   simpa using this
  .rw(config:={})[stored,if_pos L,keys_map_store];exact R
 |none=>
  have FA:k∉kvs.map (·.1):=not_mem_of_findIdx_none (vY▸U);have mE:¬(kvs.any λ D=>decide (D.1=k))=true:=by
   rw[(pB)];rintro ⟨D,bU,f⟩;exact FA (aI.mpr ⟨D,bU,of_decide_eq_true f⟩)
  rw[if_neg mE] at N;refine aa (fE (wpAny_updateDictKeys (hz:=Pk) (s:={s with toks:=s.toks+1}) H G (N _ ⟨_,_,eG _ H (Obj.isFreed_of_dict (Obj.data_mapDictKeys G _)),
   Z.mapDictKeys _,Obj.data_mapDictKeys G _,O.push B _,?_,?_⟩ (gf ..))))
  .rw(config:={})[stored,if_neg mE]
   have:=M.append B ((aW pg w).hash k) v;obtain⟨l⟩:=C
   simpa using this
  .rw(config:={})[stored,if_neg mE,aY,jm]
   refine⟨R,by simp,?_⟩;intro a L b Y;simp only[aL,List.map_nil,aO] at Y;subst Y;exact λ e=>FA (e▸L)
noncomputable def mr (es:List (Str×PV))(k:Str)(ep:Option Nat):Option Nat:=ep.map λ m=>if es.any (λ kv=>kv.1=k) then m else m+1
theorem Hj {c:Str}{x:PV}{Q:Unit->ae->Prop}(g:cB V)(k:OK pg w V ew st I ρ s)(U:st.ph[n]? = some (.dict es ep))(C:es.length<=aH)(e:ρ[n]? = some (a::r))(hx:ce I ρ x v)
  (q:gx pg w V ew {st with ph:=st.ph.set n (.dict (bE es c x) (mr es c ep))} I ρ s (Q ())):ag (af pg w) A (dictSet a (.str c t) v) Q E s:=by
 apply bd;intro G;obtain⟨rfl,N,R,m,f,M,D,Y⟩:x0324:=jM g k U e;apply G;refine Q1 (k:=c) (PySem.strKind_is ..) f (λ L B iS=>?_) ?_
 .have gv:∃T,L.get? _=some T:=Exists.elim B λ o h=>Exists.elim h λ _ h=>⟨o,h.1⟩
  obtain⟨Z,O⟩:x02:=Vc (k:=c) hx D Y;have d:=J4 (k:=c) D;refine q _ _ _ (.refl _) (.refl _) (k.mP (tk:=s.toks+1) e iS gv ⟨_,_,_,rfl,B,λ j H=>?_,Z,O⟩) rfl;unfold mr at H;apply bd;intro G;obtain⟨J,uC,kV⟩:=pA.mp H;apply G;rw[M J uC,<-kV,d]
 .exact av (dK (JV D).symm) C
theorem Zf {c:Str}{x:PV}{Q:Unit->ae->Prop}(G:cB V)(k:OK pg w V ew st I ρ s)(D:st.ph[n]? = some (.dict es ep))(C:es.length<=aH)
  (N:ce I ρ (.ref n) u) (hx:ce I ρ x v) (q:gx pg w V ew {st with ph:=st.ph.set n (.dict (bE es c x) (mr es c ep))} I ρ s (Q ())):ag (af pg w) A (setItem u (.str c t) v) Q E s:=by
 apply bd;intro O;obtain⟨_,_,rfl,e⟩:=N.inv;obtain⟨_,_,L,m,H,_⟩:x0322:=jM G k D e;apply O;have B:=H.dictOf.typeIs (s:=s);unfold setItem;refine aQ (aa (wpAny_sequenceKey B (by decide) ?_));refine aa (nI (name:=gT "__setitem__") B slot_dict_setitem (jj slot_dict_setitem B entry_dict_setitem ?_ (args_dict_setitem _ _ _)));refine aa (wpAny_notOrdered_dict B ?_);show ag _ _ (dictSet _ (.str c t) v >>= _) _ _ s;exact aa (Hj G k D C e hx λ Y J Z T M U R=>ah ⟨.none,rfl,ah (q _ _ _ T M U R)⟩)
theorem AJ.dict_set {c:Str}(Y:cB V)(f:EJ pg w V A ew o st al (.ref n))(Z:EJ pg w V A ew i al bi (.str c))(d:bi.ph[n]? = some (.dict es ep))(D:es.length<=aH):
  AJ pg w V A ew (.Subscript o i pos) x st {bi with ph:=bi.ph.set n (.dict (bE es c x) (mr es c ep))}:=λ I X s Q E v k N q=>by
 rw[assign_Subscript];refine aa (aQ (f _ _ _ _ _ k λ m g r u H G T h e=>aa (aQ (Z _ _ _ _ _ T λ l J z t C B j U a=>aa (a9 (aa (aQ ?_)))))));obtain⟨_,rfl⟩:=a.inv;exact Zf Y j d D (e.mono C B) (N.mono (H.trans C) (G.trans B)) λ y L p M O b R=>wpAny_release (q _ _ _ ((H.trans C).trans M) ((G.trans B).trans O) b (R.trans (U.trans h)))
theorem SJ.wg (M:EJ pg w V A ew value st al v)(J:AJ pg w V A ew t v al bi)
  (H:exec (.Assign [t] value pos) ew=(do dv pos;let v <-eval value ew;PySem.assign t ew v;aq .next):=by rfl):SJ pg w V A ew (.Assign [t] value pos) st bi .next:=λ I c s Q E k q=>by
 rw[H];refine aa (a9 (aa (M _ _ _ _ _ k λ a T d u R L U C G=>aa (J _ _ _ _ _ _ U G λ Z B b O D Y N=>ah ?_))));exact q _ _ _ _ (R.trans O) (L.trans D) Y (N.trans C) .next
theorem SJ.Qa (U:EJ pg w V A ew value st al v)(O:AJ pg w V A ew t v al bi)(R:AJ pg w V A ew t' v bi lv)
  (N:exec (.Assign [t,t'] value pos) ew=(dv pos >>= λ _=>eval value ew >>= λ v=>(holding [v] (PySem.assign t ew v) >>= λ _=>PySem.assign t' ew v) >>= λ _=>aq .next):=by rfl):SJ pg w V A ew (.Assign [t,t'] value pos) st lv .next:=λ I l s Q E k q=>by
 rw[N];refine aa (a9 (aa (U _ _ _ _ _ k λ h a m u Z T c b C=>aa (aa (aQ (O _ _ _ _ _ _ c C λ f G j D B e Y=>?_))))));refine R _ _ _ _ _ _ e (C.mono D B) λ i H g L d J M=>ah ?_
 exact q _ _ _ _ ((Z.trans D).trans L) ((T.trans B).trans d) J (M.trans (Y.trans b)) .next
theorem SJ.Wv {YB}{c:Str}(z:cB V)(C:EJ pg w V A ew o st al (.ref n))(G:EJ pg w V A ew i al bi (.str c))(hp:bi.ph[n]? = some (.dict es ep))(hx:es.lookup c=some x)(L:es.length<=aH):
  SJ pg w V A ew (.Delete [.Subscript o i YB] pos) st {bi with ph:=bi.ph.set n (.dict (mA es c) none)} .next:=λ I ρ s Q E k q=>by
 refine wpAny_Delete (wpAny_deleteEach_cons ?_);rw[arm_delete_Subscript];refine aa (C _ _ _ _ _ k λ I1 ρ1 s1 u j f r d1 M=>aa (aQ (G _ _ _ _ _ r λ I2 T s2 t O N R y ht=>aa (a9 (aa (aQ ?_))))));apply bd;intro D;obtain⟨_,rfl⟩:=ht.inv;have M:=M.mono O N;obtain⟨_,_,rfl,e⟩:=M.inv;obtain⟨rfl,X,J,m,H,h0,C,G⟩:x0324:=jM z R hp e;apply D;have Y:J.length<=aH:=av (dK (JV C).symm) L;refine wpAny_delItem_slot H.dictOf.typeIs (by decide) F.slot_dict_delitem (jj F.slot_dict_delitem H.dictOf.typeIs F.entry_dict_delitem ?_ (F.args_dict_delitem_2 _ _));unfold Builtin.«dict.__delitem__»;refine aa ?_;unfold Builtin.Dict.dictSlotArgs;refine aa (wpAny_notOrdered_dict H.dictOf.typeIs ?_);refine ah ?_;refine aa (ah ?_);apply bd;intro D;obtain⟨v,e1,e2⟩:=(xD (k:=c) C G).1 x hx;apply D;refine aa (wpAny_takeOut_pairs (knd:=aW pg w) (k:=c) (PySem.strKind_is ..) H.dictOf (λ Z=>bu (Z.symm.trans e1)) (λ en p hv h' B iS=>?_) Y);refine aa (wpAny_letGo (ah ⟨_,rfl,wpAny_release (wpAny_deleteEach_nil ?_)⟩));apply bd;intro D;obtain⟨d,B⟩:=B.dictAt;have gv:∃U,h'.get? _=some U:=Exists.elim B λ o h=>Exists.elim h λ _ h=>⟨o,h.1⟩
 obtain⟨g,r2⟩:x02:=Sd (k:=c) C G;apply D;exact q _ _ _ _ (j.trans O) (f.trans N) (R.mP (tk:=s2.toks+1) e iS gv ⟨_,_,d,rfl,B,(λ _ e=>nomatch e),g,r2⟩) (y.trans d1) .next
theorem Rd {d:Addr}{ep:Nat}{ks:List Str}(H:Im->wl->Heap->Prop)(U:∀I R h,H I R h->∃kvs,h.DictAt (aW pg w) d kvs ep/\ks=kvs.map (·.1)):
  ∀(ys:List Str) (k:Nat) (o:Obj),ks.drop k=ys->o.cls = .type "dict_keyiterator"->o.data = .fields #[.ref d,.int k 0,.int ks.length 0,.int ep 0]->oW pg w H (ys.map .str) o:=by
 intro ys
 induction ys with
 |nil=>
  intro k o C M D I R A s Q E f j N G q;apply bd;intro O;obtain⟨kvs,a,rfl⟩:=U _ _ _ N;apply O;rw[aE] at D;refine wpAny_pyNext_dict_end (i:=k) j ⟨_,G,M,D⟩ a ?_ λ J g=>q J s.toks g
  exact lG (av (dK (aE _).symm) (uI.mp C))
 |cons y ys Z=>
  intro k o C M D I R A s Q E f N G q;apply bd;intro O;obtain⟨kvs,a,e⟩:=U _ _ _ N;have Y:=jS C;rw[e,cM] at Y;obtain⟨⟨m,v⟩,bU,rfl⟩:=pA.mp Y;apply O;have L:o.data = .fields #[.ref d,.int k 0,.int kvs.length 0,.int ep 0]:=by rw[D,e,aE]
  refine wpAny_pyNext_dict_item (i:=k) ⟨_,G,M,L⟩ a bU λ V J B ⟨T,v6,eS,tm⟩ c=>?_
  obtain⟨t,rfl⟩:=Value.isStrOf_shape B;refine q _ T J s.toks (.str _ _) v6 (fN eS tm (by decide)) c.extBut (Z (k+1) T ?_ eS ?_)
  .rw[<-List.drop_drop,C];rfl
  .rw[tm,e,aE]
theorem Pf {d:Addr}{i n ep:Nat}:oP pg w {cls:=.type "dict_keyiterator",data:=.fields #[.ref d,.int i 0,.int n 0,.int ep 0]}:=λ A s Q E B h q=>wpAny_pyIter_keyiter (d:=d) (i:=i) (n:=n) (ep:=ep) ⟨_,h,rfl,rfl⟩ q
theorem rc.keys (R:cB V)(Y:st.ph[n]? = some (.dict es (some m))):rc pg w V A ew (.ref n) st ((es.map (·.1)).map .str) (λ ph=>ph[n]? = some (.dict es (some m))):=λ I i s Q E u k U q=>by
 obtain⟨a,r,rfl,e⟩:=U.inv;obtain⟨rfl,D,B,H,O,N,Z,d⟩:x0324:=jM R k Y e;obtain rfl:=N m rfl;refine wpAny_pyIter_dict D O ?_;have L:B.length=(es.map (·.1)).length:=by rw[Z,aE]
 rw[L];refine q (λ T C h=>∃B,h.DictAt (aW pg w) a B H/\es.map (·.1)=B.map (·.1)) _ s.toks (λ bn T C f qF b J M=>?_) (Rd _ (λ _ _ _ h=>h) _ 0 _ rfl rfl rfl) (fN rfl rfl (by decide)) rfl Pf;obtain⟨g,pY,c,G,AR,zm,w0,mI⟩:=M.obj n _ _ qF (J _ _ e);obtain rfl:=(List.cons.inj G).1;obtain rfl:=zm H rfl;exact⟨pY,AR,w0⟩
theorem PC {d:Addr}{ep:Nat}{xs:List PV}(H:Im->wl->Heap->Prop)(U:∀I G h,H I G h->∃kvs,h.DictAt (aW pg w) d kvs ep/\lm I G xs (kvs.map (·.2))):
  ∀(ys:List PV) (k:Nat) (o:Obj),xs.drop k=ys->o.cls = .type "dict_valueiterator"->o.data = .fields #[.ref d,.int k 0,.int xs.length 0,.int ep 0]->oW pg w H ys o:=by
 intro ys
 induction ys with
 |nil=>
  intro k o C N D I G A s Q E g m O J q;apply bd;intro R;obtain⟨kvs,a,r⟩:=U _ _ _ O;apply R;have B:xs.length=kvs.length:=by rw[r.length,aE]
  rw[B] at D;refine wpAny_pyNext_values_end (i:=k) m ⟨_,J,N,D⟩ a ?_ λ L j=>q L s.toks j
  exact lG (B▸uI.mp C)
 |cons y ys c=>
  intro k o C N D I G A s Q E g O J q;apply bd;intro R;obtain⟨kvs,a,r⟩:=U _ _ _ O;have B:xs.length=kvs.length:=by rw[r.length,aE]
  have V:=jS C;obtain⟨v,Y,Z⟩:=r.get V;rw[cM] at Y;obtain⟨⟨u,p⟩,bU,rfl⟩:=pA.mp Y;apply R;have M:o.data = .fields #[.ref d,.int k 0,.int kvs.length 0,.int ep 0]:=by rw[D,B]
  refine wpAny_pyNext_values_item (i:=k) ⟨_,J,N,M⟩ a bU λ L ⟨T,v6,eS,tm⟩ f=>?_
  refine q _ T L s.toks Z v6 (fN eS tm (by decide)) f.extBut (c (k+1) T ?_ eS ?_)
  .rw[<-List.drop_drop,C];rfl
  .rw[tm,B]
theorem WV {d:Addr}{i n ep:Nat}:oP pg w {cls:=.type "dict_valueiterator",data:=.fields #[.ref d,.int i 0,.int n 0,.int ep 0]}:=λ A s Q E B h q=>wpAny_pyIter_valiter (d:=d) (i:=i) (n:=n) (ep:=ep) ⟨_,h,rfl,rfl⟩ q
theorem rc.vals (Y:cB V)(c:st.ph[n]? = some (.dict es (some m))):rc pg w V A ew (.vals n) st (es.map (·.2)) (λ ph=>ph[n]? = some (.dict es (some m))):=λ I z s Q E u k Z q=>by
 apply bd;intro G;obtain⟨b,a,r,rfl,e,f⟩:=Z.inv;obtain⟨rfl,R,B,H,T,O,y,U⟩:x0324:=jM Y k c e;apply G;obtain rfl:=O m rfl;refine wpAny_pyIter_values (d:=a) ⟨_,k.inv.lw _ _ f,rfl,rfl⟩ T ?_;have M:B.length=(es.map (·.2)).length:=by rw[U.length,aE]
 rw[M];refine q (λ J C h=>∃B,h.DictAt (aW pg w) a B H/\lm J C (es.map (·.2)) (B.map (·.2))) _ s.toks (λ bn J C o qF g L N=>?_) (PC _ (λ _ _ _ h=>h) _ 0 _ rfl rfl rfl) (fN rfl rfl (by decide)) rfl WV;apply bd;intro G;obtain⟨p,pY,j,D,AR,zm,w0,mI⟩:=N.obj n _ _ qF (L _ _ e);apply G;obtain rfl:=(List.cons.inj D).1;obtain rfl:=zm H rfl;exact⟨pY,AR,mI⟩
theorem ds.Xy:ds pg w V A ew (.type "set") [] st {st with ph:=st.ph++[.set []]} (.ref st.ph.length):=λ I D s Q E G k jp q=>by
 obtain rfl:=jp.inv;refine call_set_0 λ B=>?_
 have dR:(s.heap.push {cls:=.type "set",dict:=none,data:=.set #[] 0 (.fresh 0 0 B)}).get? s.heap.objs.size=some {cls:=.type "set",dict:=none,data:=.set #[] 0 (.fresh 0 0 B)}:=cj _ rfl;exact ZB.wG (po:=.set []) k rfl ⟨_,0,rfl,⟨_,#[],0,_,dR,⟨rfl,rfl,rfl⟩,rfl,λ e C=>absurd C e7,λ k=>by simp,by decide,by rfl,rfl⟩,rfl⟩ q
theorem Aj {n:Nat}(k:OK pg w V ew st I ρ s)(B:st.ph[n]? = some (.set xs))(e:ρ[n]? = some (a::r)):
  r=[]/\s.heap.SetOf (aW pg w) a (λ k=>decide (k∈xs)) xs.length:=by
 apply bd;intro G;obtain⟨H,m,D,C,rfl⟩:=k.inv.obj n _ _ B e;obtain⟨rfl,rfl⟩:x02:=List.cons.inj D;apply G;exact⟨rfl,C⟩
theorem CJ.JP {c:Str}(B:st.ph[n]? = some (.set xs)):CJ pg w V A ew .In (.str c) (.ref n) st (decide (c∈xs)):=λ I H s Q E u v k C G q=>by
 obtain⟨_,rfl⟩:=C.inv;obtain⟨_,_,rfl,e⟩:=G.inv;obtain⟨rfl,D⟩:x02:=Aj k B e;exact wpAny_inSet_of (knd:=aW pg w) (k:=c) (PySem.strKind_is ..) rfl D (q.toks k (.bool _))
theorem on.zL (B:st.ph[n]? = some (.set xs)):on pg w V A ew (.ref n) st "add" "set.add":=λ I H s Q E u G k C q=>by
 obtain⟨_,_,rfl,e⟩:=C.inv;obtain⟨rfl,D⟩:x02:=Aj k B e;exact getMethod_set_add D q
theorem ds.zL {c:Str}(M:st.ph[n]? = some (.set xs))(J:c∉xs)(C:xs.length<100):ds pg w V A ew (.builtin "set.add") [.ref n,.str c] st {st with ph:=st.ph.set n (.set (xs++[c]))} .none:=λ I R s Q E T k jp q=>by
 apply bd;intro O;obtain⟨v,u,rfl,L,N⟩:=gq jp;obtain⟨_,rfl⟩:=N.inv;obtain⟨_,_,rfl,e⟩:=L.inv;obtain⟨rfl,G⟩:x02:=Aj k M e;apply O;refine call_set_add (knd:=aW pg w) (k:=c) (PySem.strKind_is ..) rfl G (Nat.lt_trans (Nat.succ_lt_succ C) (by decide:101<scanBound)) λ D iS yF=>?_
 have e1:(λ B=>decide (B∈xs)||decide (B=c))=λ B=>decide (B∈xs++[c]):=by
  funext B
  simp
 have e2:(if decide (c∈xs)=true then xs.length else xs.length+1)=(xs++[c]).length:=by simp[J]
 rw[e1,e2] at yF;have gv:∃H,D.get? _=some H:=Exists.elim yF λ o h=>Exists.elim h λ _ h=>Exists.elim h λ _ h=>Exists.elim h λ _ h=>⟨o,h.1⟩
 exact q _ _ _ _ (.refl _) (.refl _) (k.mP (tk:=s.toks+1) e iS gv ⟨_,_,rfl,yF,rfl⟩) rfl .none
namespace FF
theorem Wq:entryFor aX "iter"=some Builtin.«iter»:=lK (by kernel_rfl)
theorem Ra:builtinKind "iter"=none:=by decide +kernel
theorem R4:plainId "iter"=true:=by decide +kernel
theorem YG (a:Value):argsOk "iter" ⟨[a],[]⟩:=by unfold argsOk;kernel_rfl
theorem Fm (a:Value):checkBoundCall "list_iterator.__next__" ⟨[a],[]⟩=aq ():=by kernel_rfl
theorem vO:Slot "list_iterator" "__getattribute__" "object.__getattribute__":=
 .of (owner:="object") (n:="__getattribute__") (by rw[ny,nz];kernel_rfl) (by decide +kernel) (by decide +kernel) (by decide +kernel)
  (by first|exact .inl (by decide +kernel)|exact .inr (by decide +kernel)) (by rw[fD];kernel_rfl)
theorem zW:Slot "wrapper_descriptor" "__get__" "wrapper_descriptor.__get__":=
 .of (owner:="wrapper_descriptor") (n:="__get__") (by rw[ny,nz];kernel_rfl) (by decide +kernel) (by decide +kernel) (by decide +kernel)
  (by first|exact .inl (by decide +kernel)|exact .inr (by decide +kernel)) (by rw[fD];kernel_rfl)
theorem XR:entryFor aX "wrapper_descriptor.__get__"=some Builtin.«wrapper_descriptor.__get__»:=lK (by kernel_rfl)
theorem RO (a b c:Value):argsOk "wrapper_descriptor.__get__" ⟨[a,b,c],[]⟩:=by unfold argsOk;kernel_rfl
theorem zf:typeOf (.builtin "list_iterator.__next__")=aq (.type "wrapper_descriptor"):=by show builtinType _=_;rw[builtinType_eq_fast];kernel_rfl
theorem Um:typeLookup (.type "wrapper_descriptor") "__set__"=aq none:=by rw[ny,nz];kernel_rfl
theorem Sl:typeLookup (.type "wrapper_descriptor") "__delete__"=aq none:=by rw[ny,nz];kernel_rfl
theorem YJ:typeLookup (.type "list_iterator") "__getattr__"=aq none:=by rw[ny,nz];kernel_rfl
theorem WL:(".".intercalate ("list_iterator.__next__".cutAt '.').dropLast)="list_iterator":=by decide +kernel
theorem L4:isSubtype (.type "list_iterator") (.type (".".intercalate ("list_iterator.__next__".cutAt '.').dropLast))=aq true:=by rw[WL,fD];kernel_rfl
end FF
theorem Xl {it:Addr}{s:ae}{R:Result->ae->Prop}(C:s.TypeIs (.ref it) "list_iterator")(h:R (.ok (.ret (.ref s.heap.objs.size))) {s with heap:=s.heap.push (iM it)}):
  codeAny (af pg w) A (.call (.builtin "wrapper_descriptor.__get__") ⟨[.builtin "list_iterator.__next__",.ref it,.type "list_iterator"],[]⟩) R s:=by
 obtain(⟨B,g,d,t,os⟩):=s;have F6:(⟨B,g,d,t,os⟩:ae).TypeIs (.builtin "list_iterator.__next__") "wrapper_descriptor":=FF.zf;have D:=FF.L4;refine codeAny_call_builtin FF.zW.plain FF.XR (FF.zW.check _ _ _ _ _ _ _ _ F6 (FF.RO _ _ _) ?_)
 repeat (any_goals (first|assumption|wp_step))
theorem Xf {it:Addr}{s:ae}{tk:Tok}{o:Obj}{Q:Fin->ae->Prop}(M:s.heap.get? it=some o)(C:o.cls = .type "list_iterator")(D:o.dict=none)(B:∃vs,o.data = .fields vs)(h:Q (.done (.ret (.ref s.heap.objs.size))) {s with heap:=s.heap.push (iM it)}):
  ag (af pg w) A (Builtin.«object.__getattribute__» ⟨[.ref it,.str "__next__" tk],[]⟩) Q E s:=by
 apply bd;intro L;obtain(⟨c,dct,J,Y⟩):=o;obtain⟨vs,B⟩:=B;dsimp only at C D B;subst C D B;obtain(⟨G,g,d,t,os⟩):=s;apply L;have H:(⟨G,g,d,t,os⟩:ae).TypeIs (.ref it) "list_iterator":=⟨_,M,rfl⟩;have F6:(⟨G,g,d,t,os⟩:ae).TypeIs (.builtin "list_iterator.__next__") "wrapper_descriptor":=FF.zf;have N:=slot_listiter_next.lookup;have R:=FF.zf;have T:=FF.zW.lookup;have O:=FF.Um;have U:=FF.Sl
 repeat (any_goals (first|assumption|wp_step))
 exact Xl H (ah h)
theorem X6 {it:Addr}{s:ae}{o:Obj}{Q:Value->ae->Prop}(J:s.heap.get? it=some o)(D:o.cls = .type "list_iterator")(G:o.dict=none)(B:∃vs,o.data = .fields vs)
  (h:Q (.ref s.heap.objs.size) {s with heap:=s.heap.push (iM it),toks:=s.toks+1}):ag (af pg w) A (getAttr (.ref it) "__next__" true) Q E s:=by
 apply bd;intro M;obtain(⟨c,dct,L,R⟩):=o;obtain⟨vs,B⟩:=B;dsimp only at D G B;subst D G B;obtain(⟨H,g,d,t,os⟩):=s;apply M;have C:∀ij,(⟨H,g,d,ij,os⟩:ae).TypeIs (.ref it) "list_iterator":=λ _=>⟨_,J,rfl⟩
 have T:=FF.vO.lookup;have N:=FF.vO.bind (.ref it);have O:=FF.YJ;unfold getAttr getAttrBy
 repeat (any_goals (first|assumption|exact C _|((with_reducible show codeAny _ _ (.call (Value.builtin "object.__getattribute__") _) _ _);refine codeAny_call_builtin FF.vO.plain F.entry_object_getattribute (FF.vO.check _ _ _ _ _ _ _ _ (C _) (F.args_object_getattribute_2 _ _) (Xf (s:=⟨H,g,d,_,os⟩) J rfl rfl ⟨_,rfl⟩ ?_)))|wp_step))
theorem Y8 {m it l:Addr}{i:Nat}{items:Array Value}{x:Value}{s:ae}{Q:Value->ae->Prop}(D:s.heap.get? m=some (iM it))(B:s.heap.get? it=some (uy l i))(C:s.heap.IsList l items)(hx:items[i]? = some x)
  (H:∀h',h'.get? it=some (uy l (i+1))->ba it s.heap h'->Q x {s with heap:=h'}):ag (af pg w) A (call (.ref m) []) Q E s:=by
 apply bd;intro G;obtain(⟨J,lj,_,L,kR⟩):=C;apply G;refine wpAny_call (codeAny_of_tree ?_);show ag _ _ (callAny (.ref m) _) _ _ _;refine nd_load D ?_;show ag _ _ (checkBoundCall "list_iterator.__next__" ⟨[.ref it],[]⟩ >>= λ _=>again (Code.builtin "list_iterator.__next__" ⟨[.ref it],[]⟩)) _ _ _;refine aa (jk (FF.Fm (.ref it)) ?_);refine ah ⟨lL _ (by decide +kernel),gd entry_listiter_next ?_⟩;show ag _ _ (field (.ref it) 0 >>= _) _ _ s;refine aa (bf B rfl (x:=.ref l) rfl ?_);show ag _ _ (if (dZ l==Value.none)=true then _ else _) _ _ s;refine da (decide_eq_false (show ¬((dZ l==Value.none)=true) from nt)) ?_;show ag _ _ (field (.ref it) 1 >>= _) _ _ s;refine aa (bf B rfl (x:=.int i 0) rfl ?_);show ag _ _ (seqItems? (.ref l) >>= _) _ _ s;refine aa (wpAny_seqItems lj kR ?_);simp only[gh,hx];refine aa (lH B rfl (by simp) (ah (H _ ?_ (gf ..))));have:=eG (gc (·.setIfInBounds 1 (bx ((i+1:Nat):Int)))) B rfl;exact this
theorem Qf {m it l:Addr}{i:Nat}{items:Array Value}{s:ae}{Q:Value->ae->Prop}(N:A.handled=none)(L:s.heap.get? m=some (iM it))(C:s.heap.get? it=some (uy l i))(G:s.heap.IsList l items)(hx:items[i]? = none)
  (H:∀B h' e,ba it s.heap B->(∃D,B.get? it=some D)->Heap.NewExc B h' e "StopIteration"->E (.ref e) {s with heap:=h'}):ag (af pg w) A (call (.ref m) []) Q E s:=by
 apply bd;intro M;obtain(⟨O,lj,_,R,kR⟩):=G;apply M;refine wpAny_call (codeAny_of_tree ?_);show ag _ _ (callAny (.ref m) _) _ _ _;refine nd_load L ?_;show ag _ _ (checkBoundCall "list_iterator.__next__" ⟨[.ref it],[]⟩ >>= λ _=>again (Code.builtin "list_iterator.__next__" ⟨[.ref it],[]⟩)) _ _ _;refine aa (jk (FF.Fm (.ref it)) ?_);refine ah ⟨lL _ (by decide +kernel),gd entry_listiter_next ?_⟩;show ag _ _ (field (.ref it) 0 >>= _) _ _ s;refine aa (bf C rfl (x:=.ref l) rfl ?_);show ag _ _ (if (dZ l==Value.none)=true then _ else _) _ _ s;refine da (decide_eq_false (show ¬((dZ l==Value.none)=true) from nt)) ?_;show ag _ _ (field (.ref it) 1 >>= _) _ _ s;refine aa (bf C rfl (x:=.int i 0) rfl ?_);show ag _ _ (seqItems? (.ref l) >>= _) _ _ s;refine aa (wpAny_seqItems lj kR ?_);simp only[gh,hx];refine aa (fE (aa (lH C rfl (by simp) ?_)));show ag _ _ (newExc (.type "StopIteration") [] >>= _) _ _ _;refine aa ?_;simp only[newExc,newTuple];refine aa (gN ?_ (by size_fits));refine aa (m:=firstArgMember _ _) (jk (a:=Value.none) (by first|rfl|(simp only[firstArgMember];rfl)) ?_);refine gN ?_ (by size_fits);simp only[raiseNew];refine aa (wpAny_handled ?_);rw[show(A.under _).handled=none from N];refine aa (ah (wpAny_throw ?_));have J:=eG (gc (·.setIfInBounds 0 Value.none)) C rfl;have P6:ownMembersOf (Value.type "StopIteration") [] = #[]:=rfl;rw[P6];exact H (s.heap.update it (gc (·.setIfInBounds 0 Value.none))) _ _ (gf ..) ⟨_,J⟩ ⟨λ b o e=>bH _ (bH _ e),Heap.get?_none_of_le (by simp),⟨_,_,cj _ rfl,rfl,rfl⟩⟩
theorem ds.Tn (D:st.ph[n]? = some (.list xs)):ds pg w V A ew (.builtin "iter") [.ref n] st {st with ph:=st.ph++[.iter n 0]} (.ref st.ph.length):=λ I J s Q E L k jp q=>by
 apply bd;intro G;obtain⟨v,rfl,H⟩:=cz jp;obtain⟨a,_,rfl,e⟩:=H.inv;obtain⟨rfl,B,m,C,r⟩:x0222:=lr k D e;apply G;refine Calls.call_function_entry FF.Ra FF.R4 FF.Wq (FF.YG _) ?_
 k_delta "iter"
 refine aa (ah ?_);refine aa (wpAny_pyIter_list C.isList (ah ⟨_,rfl,?_⟩));exact ZB.wG (po:=.iter n 0) k rfl ⟨_,a,[],rfl,pu.push _ _ e,cj _ rfl⟩ q
theorem zM {n:Nat}(k:OK pg w V ew st I ρ s)(C:st.ph[n]? = some (.iter l i))(e:ρ[n]? = some (a::r)):r=[]/\∃b B,ρ[l]? = some (b::B)/\s.heap.get? a=some (uy b i):=by
 apply bd;intro H;obtain⟨L,b,B,D,G,J⟩:=k.inv.obj n _ _ C e;obtain⟨rfl,rfl⟩:x02:=List.cons.inj D;apply H;exact⟨rfl,b,B,G,J⟩
theorem u8.next (B:st.ph[n]? = some (.iter l i)):u8 pg w V A ew (.ref n) "__next__" st (.TE n):=λ I L s Q E u k C q=>by
 apply bd;intro D;obtain⟨_,_,rfl,e⟩:=C.inv;obtain⟨rfl,b,H,J,G⟩:x0222:=zM k B e;apply D;refine X6 G rfl rfl ⟨_,rfl⟩ ?_;exact q _ _ _ _ k.inv.Fa (.refl _) (k.put rfl).toks rfl (.TE e (Im.XV ..))
theorem Hm {m it:Addr}{M:Model}(h:Heap)(X:h.get? m=some (iM it)):∃k,(k=Keeper.frame\/k=Keeper.machine\/k=Keeper.boundFrame)/\Looks M h (keeperOf (.ref m)) k:=
 ⟨.machine,.inr (.inl rfl),(Looks.ld (part:=none) X).andThen .now⟩
theorem EJ.Br (o:EJ pg w V A ew func st al (.TE n))(Z:al.ph[n]? = some (.iter l i))(M:al.ph[l]? = some (.list xs))(hx:xs[i]? = some x)
  (L:eval (.Call func [] [] pos) ew=(do du pos (<-eval func ew) [] (backTo pos (starEach [] ew)) []):=by rfl):
  EJ pg w V A ew (.Call func [] [] pos) st {al with ph:=al.ph.set n (.iter l (i+1))} x:=λ I ρ s Q E k q=>by
 rw[L];refine aa (o _ _ _ _ _ k λ X y R u O N C z c=>?_);apply bd;intro p;obtain⟨m,g,_,rfl,e,T⟩:=c.inv;obtain⟨rfl,b,r',G,f⟩:x0222:=zM C Z e;obtain⟨rfl,D,j,Y,r⟩:x0222:=lr C M G;obtain⟨v,U,J⟩:=r.get hx;apply p;have H:=C.inv.lw _ _ T;refine callWith_of (P:=λ h=>h.get? m=some (iM g)) rfl Hm (evalArgs_nil3 ⟨H,?_⟩);refine Y8 H f Y.isList (gR.trans U) λ h' B d=>?_
 exact q _ _ _ _ O N (C.mP (tk:=R.toks) e d ⟨_,B⟩ ⟨_,b,[],rfl,G,B⟩) z J
theorem RX.Br (d:A.handled=none)(z:EJ pg w V A ew func st al (.TE n))(p:al.ph[n]? = some (.iter l i))(R:al.ph[l]? = some (.list xs))(hx:xs[i]? = none)
  (O:eval (.Call func [] [] pos) ew=(do du pos (<-eval func ew) [] (backTo pos (starEach [] ew)) []):=by rfl):
  RJ pg w V A ew (eval (.Call func [] [] pos) ew) st {al with ph:=al.ph.set n .gone} (.type "StopIteration"):=λ I ρ s Q E k q=>by
 rw[O];refine aa (z _ _ _ _ _ k λ T H G u Z Y D X t=>?_);obtain⟨m,y,_,rfl,e,c⟩:=t.inv;obtain⟨rfl,b,r',a,x⟩:x0222:=zM D p e;obtain⟨rfl,B,j,o,r⟩:x0222:=lr D R a;have L:=D.inv.lw _ _ c;refine callWith_of (P:=λ h=>h.get? m=some (iM y)) rfl Hm (evalArgs_nil3 ⟨L,?_⟩);have U:B[i]? = none:=by
  rw[(List.getElem?_eq_none_iff),<-r.length];exact List.getElem?_eq_none_iff.mp hx
 refine Qf d L x o.isList (gR.trans U) λ C h' ex v ⟨M,KB⟩ N=>?_
 have k2:OK pg w V ew {al with ph:=al.ph.set n .gone} T H {G with heap:=C,toks:=G.toks}:=D.mP e v ⟨_,KB⟩ ⟨_,M,rfl,KB⟩;obtain⟨g,f⟩:x02:=td (tk:=G.toks) k2 N;exact q _ _ _ _ Z Y g X f
theorem EJ.YH {lo}(h1:EJ pg w V A ew value st al (.ref n))(f:PJ pg w V A ew lower al bi lo)(h3:PJ pg w V A ew upper bi lv hi)(hp:lv.ph[n]? = some (.list xs))(C:xs.length<=aH)
  (X:∀o r,letTemporaryGo value o r=aq ():=by intro _ _;rfl):
  EJ pg w V A ew (.Subscript value (.Slice lower upper none p) pos) st lv (.lst (fA xs lo hi)):=λ I ρ s Q E k q=>by
 refine wpAny_Subscript_list_slice (h1 _ _ _ _ _ k λ I1 ρ1 s1 u Y U c d1 D=>f _ _ _ _ _ c λ I2 N s2 vl J G z d T=>h3 _ _ _ _ _ z λ I3 R s3 vu H L M Z hh=>?_) X;apply bd;intro nk;obtain⟨l,el,y⟩:=T;obtain⟨m,g,O⟩:=hh;have D:=D.mono (J.trans H) (G.trans L);obtain⟨a,_,rfl,e⟩:=D.inv;obtain⟨rfl,B,j,hL,r⟩:x0222:=lr M hp e;apply nk;exact⟨a,BF M hL r C el y g O (q.at ((Y.trans J).trans H) ((U.trans G).trans L) (Z.trans (d.trans d1)))⟩
theorem EJ.Za {ge ln}(L:A.handled=none)(U:P3 ew scope cl al.loc ge)
  (g:EJ pg w V A ew iter st al v) (R:rc pg w V A ew v al xs Hd)
  (f:∀C d,(∀vs,d≠Data.fields vs)->wf pg w V A (dM scope cl C ew) elt al.ph.length Hd (⟨target,iter,ifs,0⟩:: rest) xs ⟨ge,al.ph++[.list []],(ew.locals,d)::al.fs⟩ ⟨ln,al.ph++[.list ys],(ew.locals,d)::al.fs⟩)
  (c:∀x,iD iter ew x=aq x:=by intro _;rfl):
  EJ pg w V A ew (.ListComp elt (⟨target,iter,ifs,0⟩:: rest) scope pos) st {al with ph:=al.ph++[.list ys]} (.ref al.ph.length):=λ I y s Q E k q=>by
 rw[eval_ListComp];show ag (af pg w) A (comprehension (.ListComp elt (⟨target,iter,ifs,0⟩:: rest) scope pos) scope ew (firstIterPos (⟨target,iter,ifs,0⟩:: rest) pos) (newList []) false (eval iter ew) none) Q E s;refine AD (ck:=.lst elt) (em:=λ ew=>nQ pg w V A ew elt al.ph.length) (use:=none) (Q:=Q) (E:=E) Jk (λ _=>nQ.run) L (λ _=>L) U g R f c k λ _ G _ T H D C d a b M _ J o ⟨m,N⟩ B=>⟨m,N,λ u nX=>?_⟩
 obtain⟨⟨r,KB,_⟩,O,Y,j⟩:x04:=J.No (C,d) (aN ..);have cX:OK pg w V ew {al with ph:=al.ph++[.list ys]} T (G++[[D]]) H:=J.xq λ p Z=>aT _ Z
 exact q _ _ _ _ a (b.trans pu.push) (cX.extBut (tk:=H.toks) nX.extBut O Y j B) o (.ref (tP M.len.symm))
theorem EJ.named (M:EJ pg w V A ew value st al v)(J:AJ pg w V A ew target v al bi):EJ pg w V A ew (.NamedExpr target value pos) st bi v:=λ I b s Q E k q=>
 wpAny_NamedExpr (M _ _ _ _ _ k λ Z R c u O L T H C=>J _ _ _ _ _ _ T C λ Y G a D B U N=>q _ _ _ _ (O.trans D) (L.trans B) U (N.trans H) (C.mono D B))
theorem ds.SF (N:st.ph[n]? = some (.list xs))(D:xs.length<=aH):ds pg w V A ew (.type "tuple") [.ref n] st st (.tup xs):=λ I H s Q E U k jp q=>by
 apply bd;intro O;obtain⟨v,rfl,R⟩:=cz jp;obtain⟨_,_,rfl,e⟩:=R.inv;obtain⟨rfl,C,m,M,r⟩:x0222:=lr k N e;apply O;refine call_tuple_list M.isList (λ G L=>?_) (by rw[dJ,<-r.length];exact D);have J:OK pg w V ew st I H {s with heap:=G}:=k.grow L;have T:ZB pg w V ew st (.tup xs) I H {s with heap:=G} Q:=q;exact T.put J rfl (.tup (Im.XV ..) (r.mono J.inv.Fa (.refl _)))
theorem ds.Yo (G:st.ph[n]? = some (.list xs))(L:xs.length<2 ^ 62):ds pg w V A ew (.type "bool") [.ref n] st st (.bool (!xs.isEmpty)):=λ I Y s Q E Z k jp q=>by
 apply bd;intro D;obtain⟨v,rfl,J⟩:=cz jp;have vQ:=J;obtain⟨a,_,rfl,e⟩:=J.inv;obtain⟨rfl,B,m,M,r⟩:x0222:=lr k G e;apply D;have O:(!(aM B).isEmpty) = !xs.isEmpty:=by cases r<;>rfl
 have g:Meets (Builtin.«bool.__new__» ⟨[.type "bool",.ref a],[]⟩) (λ _ R s=>s.heap.IsList a (aM B)/\(aM B).size<2 ^ 62/\R (.ok (.ret (.bool (!(aM B).isEmpty)))) {s with toks:=s.toks+2}):=
  Meets.of_wp λ pg w A R s C=>by
   apply bd;intro D;obtain(⟨G,g,d,U,os⟩):=s;obtain⟨N,c,C⟩:x03:=C;apply D;have T:=F.conv_sub_bool;unfold Builtin.«bool.__new__»
   repeat (any_goals (first|assumption|((with_reducible show ag _ _ (truthy (dZ a)) _ _ _);refine wpAny_truthy_list N (by lia) ?_)|wp_step))
   all_goals first|exact⟨_,rfl,C⟩|skip
 refine call_bool_1 g ⟨M.isList,by rw[dJ,<-r.length];exact L,⟨rfl,?_⟩⟩;rw[O];exact q.toks k (.bool _)
theorem ds.OS:ds pg w V A ew (.type "type") [.tup xs] st st (.typ "tuple"):=λ I D s Q E G k jp q=>by
 apply bd;intro B;obtain⟨v,rfl,C⟩:=cz jp;obtain⟨_,_,_,rfl,e,r⟩:=C.inv;apply B;exact call_type_of ⟨_,k.inv.lw _ _ e,rfl⟩ (by decide) (q.here k (.typ _))
theorem CJ.V3 {T:String}:CJ pg w V A ew .Is (.typ T) (.typ T) st true:=λ I D s Q E u v k B C q=>by
 obtain(⟨_,rfl⟩):=B.inv;obtain(⟨_,rfl⟩):=C.inv;show ag _ _ (do return .bool (<-isSame (.type T) (.type T))) Q E s;refine aa (jk (a:=true) ?_ (ah (q.here k (.bool _))))
 first
  |(show(aq (Value.type T==Value.type T):Sem Bool)=_;rw[beq_self_eq_true])
  |(unfold isSame;dsimp only;rw[(beq_self_eq_true)])
theorem PA:∀n,n<20->(PyData.list (dy n (PyData.bool true))).layable0=true/\(∀y∈dy n (PyData.bool true),SeqAt.noMix y (PyData.bool false)=true)/\decide (PySem.Spec.countIn (PyData.bool false) (dy n (PyData.bool true))≠0)=false:=by decide +kernel
theorem Q7 (n:Nat):PV.Ds (dy n (.bool true))=dy n (PyData.bool true):=by
 induction n with
 |zero=>rfl
 |succ n B=>exact congrArg (PyData.bool true :: ·) B
theorem Yp (n:Nat):PV.n9 (dy n (.bool true))=true:=by
 induction n with
 |zero=>rfl
 |succ n B=>exact B
theorem CJ.To {n:Nat}(G:n<20)(H:A.units+65<cLine):CJ pg w V A ew .NotIn (.bool false) (.lst (dy n (.bool true))) st true:=λ I T s Q E u v k L N q=>by
 apply bd;intro M;obtain⟨O,C⟩:=L.reads k.inv.lw (by rfl);obtain⟨R,B⟩:=N.reads k.inv.lw (Yp n);have C:Reads _ _ (PyData.bool false) _:=C;have B:Reads _ _ (PyData.list (PV.Ds (dy n (.bool true)))) _:=B;rw[Q7] at B;obtain⟨J,D,l3⟩:x03:=PA n G;apply M;refine notIn_list_dataS B C J (by decide +kernel) H D ?_;rw[l3];exact q.here k (.bool _)
theorem ds.Pl {xs ys:List Str}(J:xs.length<64)(j:∀L:List Str,L.Perm xs->sortedS L=true->L=ys):ds pg w V A ew (.builtin "sorted") [.tup (xs.map .str)] st st (.lst (ys.map .str)):=λ I Y s Q E vs k jp q=>by
 apply bd;intro M;obtain⟨v,rfl,hv⟩:=cz jp;obtain⟨a,B,n,rfl,e,r⟩:=hv.inv;apply M;have d:B.length<64:=by rw[<-r.length,aE];exact J
 have H:=Ap r;refine Calls.call_function_entry kind_sorted plain_sorted entry_sorted (args_sorted1 _) ?_;unfold Builtin.«sorted»;refine aa (m:=checkCount "sorted" 1 1 _) (ah ?_);refine aa (wpAny_collect_seq a (.inr rfl) (k.inv.lw _ _ e) rfl rfl (λ C c=>?_) (by rw[dJ,ak];lia));have U:OK pg w V ew st I Y {s with heap:=C}:=k.grow c;have e1:(aM B).toList=B:=rfl;rw[e1];refine aa (wpAny_newList ?_ (by rw[ak];lia));have rT:(C.push (seqObj "list" B.toArray 0)).get? C.objs.size=some (seqObj "list" B.toArray 0):=cj _ rfl;refine aa (aQ (jj slot_list_sort (s:={s with heap:=C.push (seqObj "list" B.toArray 0)}) ⟨_,rT,rfl⟩ entry_list_sort (list_sort_treeK (s:={s with heap:=C.push (seqObj "list" B.toArray 0)}) strKind_oneLt rT H.keysOf (λ Z T N e=>keyKind_strs (by rw[<-e];exact H)) d λ bv X hs=>⟨_,rfl,?_⟩) (args_list_sort _)));apply bd;intro M;obtain⟨zF,u,p,f⟩:x13:=sorted_out_str H X hs;apply M;obtain rfl:=j zF p f;refine ah ⟨_,rfl,?_⟩;obtain⟨z,g⟩:=sortedHeap_at (h:=C.push (seqObj "list" B.toArray 0)) (a:=C.objs.size) (vs:=B) (n:=0) (out:=(arrOf bv).map (·.2)) rT;have k2:OK pg w V ew st I Y {s with heap:=sortedHeap (C.push (seqObj "list" B.toArray 0)) C.objs.size B ((arrOf bv).map (·.2))}:=U.grow λ b o R=>by
  have G:b<C.objs.size:=bP R;rw[sortedHeap_old (aS G) (by rw[Heap.size_push];exact lS G)];exact bH _ R
 have O:=dE (a:=C.objs.size) U (aJ _);have y:=k2.freeze (a:=C.objs.size) O g;refine q _ _ _ _ (Fa O.im) (.refl _) y rfl (.lst (items:=((arrOf bv).map (·.2)).toList) (n:=z) ?_ (Jz u));rw[Im.XV]
def br (pg:aK)(w:aA)(V:Im)(k:Nat)(f:Addr)(args:List PV)(kw:List (Str×PV))(ph bn:List PO)(cls:Value):Prop:=
 ∀A ew st I ρ s R vs kvs,wn A k->Uf A ew st.fs->st.ph=ph->OK pg w V ew st I ρ s->lm I ρ args vs->f9 I ρ kw kvs ->
  (∀I' ρ' s' e,nw I I'->pu ρ ρ'->OK pg w V ew {st with ph:=bn} I' ρ' s'->s'.os=s.os->kY ew {st with ph:=bn} I' ρ' s'.heap cls e->R (.error (.ref e)) s') ->
  codeAny (af pg w) A (.call (.ref f) ⟨vs,kvs⟩) R s
theorem Sc.back {fw ln bn}(k1:OK pg w V ew st I1 ρ1 s1)(C:Pi s1.heap h2)(H:nw (I1.frozen ew h2) I3)(O:Sc fw ⟨ln,bn,(ew.locals,d)::st.fs⟩ I3 ρ3 a):Sc ew {st with ph:=bn} (I3.fh I1 ew) ρ3 a:=by
 refine⟨Im.Fh O.im,O.gB,λ G=>?_,λ q=>O.fs (.tail _ q)⟩
 rcases G with e|B
 .exact O.fs (e▸.head _)
 .apply bd;intro D;obtain⟨_,J,v6,_⟩:x0212:=k1.fr.ma (.inr B);apply D;exact bu (O.im.symm.trans (H _ _ ((Im.uq B).trans (C _ _ v6))))
theorem iV.back (k1:OK pg w V ew st I1 ρ1 s1)(L:Pi s1.heap D)(M:nw (I1.frozen ew D) I3)(X:iV I3 h cls e):iV (I3.fh I1 ew) h cls e:=by
 apply bd;intro B;obtain⟨J,Z,T,D,C⟩:=X;apply B;refine⟨J,Z,T,D,C.imp id λ C=>⟨C.1,?_⟩⟩;apply bd;intro B;obtain⟨y,p,Y,U,H,G,O⟩:=C.2;apply B;refine⟨y,p,Y,U,(Im.vN λ q=>?_).trans H,G,O⟩;apply bd;intro B;obtain⟨_,Q,v6,N⟩:x0212:=k1.fr.ma (.inr q.1);obtain⟨u,R⟩:=N q.1;apply B;obtain rfl:=Option.some.inj (H.symm.trans (M _ _ ((Im.uq q.1).trans (L _ _ v6))));exact nomatch G.symm.trans R
theorem br.of_body {ln bn}(T:cu V mg mb)(F:fo V f fd body)(y:re pg w V fd args kw loc)(E:ow fd loc)
  (h:∀A L fs,wn A k->Ctx A (callEnvC fd L f) fs->RJ pg w V A (callEnvC fd L f) (execs body (callEnvC fd L f)) ⟨loc,ph,fs⟩ ⟨ln,bn,fs⟩ cls):br pg w V (k+1) f args kw ph bn cls:=by
 intro A o st I ρ s RR vs kvs R C gV N jp ly q;subst gV;refine F.enter T y E R.r0 C N jp ly λ{I1 ρ1 s1 d h2 tk L} g c j D G hd R' O r=>h _ _ _ (R.deeper _) O _ _ _ _ _ r λ I3 u s3 e B U m o3 X3=>?_
 show ag _ _ (noteFrame (.ref e) _ >>= λ _=>setFlight (.ref e) none) _ _ _;refine aa (note (st:=⟨ln,bn,(o.locals,d)::st.fs⟩) O m X3 λ s4 Q Z X=>qq Q X λ s5 J o5 M=>?_);apply bd;intro nk;obtain⟨i9,lu,wL⟩:x03:=D.back G hd B U J.inv J.gens J.No;obtain⟨Y,eL,p,hc,tI,z,jQ,ts,x,Vy,H,gn,gm,h3,TO⟩:=M.obj;apply nk;exact q _ _ _ _ (g.trans lu) (c.trans U) i9 (o5.trans (Z.trans (o3.trans j))) ⟨M.out.back D G B,M.ctx.back D G B,Y,eL,p,hc,tI,.inr ⟨z,jQ,ts,x,Vy,H,gn,gm,h3,TO.back D G B⟩⟩
theorem RX.bq {bn}(i:EJ pg w V A ew func st al (.obj f))(a:V f=some o)(U:o.data = .func fd)(Z:am pg w V A ew args al bi vs)
  (g:br pg w V k f vs [] bi.ph bn c) (R:wn A k) (C:Uf A ew bi.fs)
  (H:eval (.Call func args [] pos) ew=(do du pos (<-eval func ew) [] (backTo pos (starEach args ew)) []):=by rfl):
  RJ pg w V A ew (eval (.Call func args [] pos) ew) st {bi with ph:=bn} c:=λ I y s Q E h q=>by
 rw[H];refine aa (i _ _ _ _ _ h λ n j t v O M cX b l=>?_);obtain(⟨_,rfl⟩):=l.inv;refine callWith_function (o:=o) (fd:=fd) (fV Z cX λ m B x p N J PP G KM=>⟨⟨PP.inv.lw _ _ (PP.top _ _ a),U⟩,?_⟩);exact wpAny_call (g _ _ _ _ _ _ _ _ _ R C rfl PP KM ⟨rfl,.nil⟩ λ u D r e L T d Y X=>q _ _ _ _ ((O.trans N).trans L) ((M.trans J).trans T) d (Y.trans (G.trans b)) X)
theorem RX.fy {bn}{m:Sem Bool}(n:EJ pg w V A ew o st al v)(g:cW pg w V A ew v al name f)(l:am pg w V A ew args al bi vs)
  (h:V f=some ob) (a:ob.data = .func fd) (T:br pg w V j f (v::vs) [] bi.ph bn c) (R:wn A j) (C:Uf A ew bi.fs)
  (N:eval (.Call (.Attribute o name apos) args [] pos) ew=(do
   let ov <-eval o ew
   dv apos.atName
   let (f,first) <-holding [ov] (getMethod ov name m)
   du pos f first (backTo pos (starEach args ew)) []):=by rfl):
  RJ pg w V A ew (eval (.Call (.Attribute o name apos) args [] pos) ew) st {bi with ph:=bn} c:=λ I ρ s Q E k q=>by
 rw[N];refine aa (n _ _ _ _ _ k λ x p s1 u Y U H r J=>aa (a9 (aa (aQ (g _ _ _ _ _ _ _ H J ?_)))));refine callWith_function (o:=ob) (fd:=fd) (fV l H λ t L s2 y G D B d KM=>⟨⟨B.inv.lw _ _ (B.top _ _ h),a⟩,?_⟩);exact wpAny_call (T _ _ _ _ _ _ _ _ _ R C rfl B (.cons (J.mono G D) KM) ⟨rfl,.nil⟩ λ I3 M z e O Z i b X=>q _ _ _ _ ((Y.trans G).trans O) ((U.trans D).trans Z) i (b.trans (d.trans r)) X)
theorem SX.expr (h:RJ pg w V A ew (eval e ew) st al c)(K:ut ew)(B:swapsWith e none pos.line ew=aq false:=by rfl):RJ pg w V A ew (exec (.Expr e pos) ew) st al c:=λ I C s Q E k q=>by
 exact wpAny_Expr_any (h _ _ _ _ _ k q) (by unfold interactive;rw[K.kind];rfl) B
noncomputable abbrev Pg:List Value:=[.type "ValueError",.type "Exception",.type "BaseException",.type "object"]
inductive gX (V:Im)(mg:Str->Option Value)(x:Str)(C:Addr):Prop
 |mk (e:mg x=some (.ref C)) (bm N nm q bs hdct sn sub ab col dd k0 k1 k2 k3 k5) (mN:Str->Option Value) (m:mN "__init__"=none)
  (H:∀h:Heap,(∀a o,V a=some o->h.get? a=some o)->h.get? C=some (excClassObj nm q C N bs bm hdct sn sub ab col dd k0 k1 k2 k3 k5 "ValueError.__new__")/\h.Ns N mN/\OwnTail h Pg bm)
theorem eV.own (O:gX V mg x C):eV pg w V (.ref C) (.ref C) true:=λ A s e Y Q E G U M q=>by
 apply bd;intro T;obtain⟨_,I,N,f,m,z,B,c,sub,u,J,j,k,o,k2,y,p,X,D,H⟩:=O;obtain⟨L,r,R⟩:x03:=H s.heap G;obtain(⟨Z,g,d,t,os⟩):=s;apply T;exact wpAny_excMatches_sub_self L U M (R.hasType (by decide)) q
theorem SX.N3 (T:cu V mg mb)(K:ut ew)(O:gX V mg x C)(hA:A.handled=none)(hl:ew.kindOf x=some .globalImplicit)(f:am pg w V A ew args st al vs)(R:vs.length<=aH)(hd:(x==("__debug__" : Str))=false:=by decide):
  RJ pg w V A ew (exec (.Raise (some (.Call (.Name x np) args [] cpos)) none pos) ew) st al (.ref C):=λ I ρ s Q E k q=>by
 apply bd;intro J;obtain⟨z,tl,N,Y,qn,r,B,U,sub,j,G,Z,c,d,D,p,g,u,L,H⟩:=O;obtain⟨hC,hN,TL⟩:x03:=H s.heap λ a o e=>k.inv.lw _ _ (k.top _ _ e)
 apply J;refine wpAny_Raise_call_subT (C:=C) (nm:=Y) (q:=qn) (N:=N) (bs:=r) (bm:=tl) (hdct:=B) (sn:=U) (sub:=sub) (ab:=j) (col:=G) (dd:=Z) (k0:=c) (k1:=d) (k2:=D) (k3:=p) (k5:=g)
  F.excBase_ValueError (mN:=u) (TL.hasType (by decide)) hA (jV (js f).1) L (rv K.kind hl (loadGlobal_global (K.glob▸(k.tg T).1) z ⟨rfl,?_⟩) hd)
 refine fV f k λ I2 y s2 us a2 X D d2 KM=>?_
 apply bd;intro J;obtain⟨Na,vG,Pe⟩:x03:=H s2.heap λ a o e=>D.inv.lw _ _ (D.top _ _ e)
 apply J;refine⟨rfl,by show us.length<=_;rw[<-KM.length];exact R,Na,vG,Pe,λ h' e M=>?_⟩;apply bd;intro J;obtain⟨t,m,_,_⟩:x13:=M.there;apply J;exact q _ _ _ _ a2 X (D.grow M.keeps) d2 ⟨Bm D M.new,⟨_,_,m,rfl,.inl rfl⟩,_,_,m,rfl,rfl,.inl rfl⟩
inductive qr (pg:aK)(w:aA)(V:Im)(A:aD)(ew:aB):List aF->PS->PS->List Str->Prop
 |nil {st:PS}:qr pg w V A ew [] st st []
 |cons {st al bi:PS}{e es y ys}:EJ pg w V A ew e st al (.str y)->qr pg w V A ew es al bi ys->qr pg w V A ew (e::es) st bi (y::ys)
theorem Rb:∀(ys:List Str) (a:Str),a.length<=(ys.foldl (· ++ ·) a).length:=by
 intro B
 induction B with
 |nil=>
  intro a;exact aJ _
 |cons y ys C=>
  intro a;refine av ?_ (C (a++y));rw[bQ];exact dW ..
set_option tactic.hygienic true in
theorem qr.Pq (h:qr pg w V A ew es st al ys):∀{I D s E B}{Q:Str->ae->Prop},OK pg w V ew st I D s->(ys.foldl (· ++ ·) B).length<=aH ->
  (∀H C s',nw I H->pu D C->OK pg w V ew al H C s'->s'.os=s.os->Q (ys.foldl (· ++ ·) B) s')->Joins (af pg w) A E (evalEach es ew) B Q s:=by
 induction h with
 |nil=>
  intro I D s E B Q k G q;exact q _ _ _ (.refl _) (.refl _) k rfl
 |cons Z _ U=>
  rename_i y ys o
  intro I D s E B Q k G q;refine Z _ _ _ _ _ k λ j c m v R N T Y d=>?_
  obtain⟨_,rfl⟩:=d.inv;refine⟨_,_,rfl,av (Rb ys (B++y)) G,U T G λ g J p O M f L=>q _ _ _ (R.trans O) (N.trans M) f (L.trans Y)⟩
theorem EJ.wz {e1 e2}(h:qr pg w V A ew (e1::e2::es) st al ys)(B:(ys.foldl (· ++ ·) gU).length<=aH):EJ pg w V A ew (.JoinedStr (e1::e2::es) pos) st al (.str (ys.foldl (· ++ ·) gU)):=λ I M s Q E k q=>
 wpAny_JoinedStr (h.Pq k B λ L H N G D J C=>⟨B,q _ _ _ _ G D J.toks C (.str _ _)⟩)
theorem EJ.JQ (h:EJ pg w V A ew e st al (.str x))(hx:x.length<=aH):EJ pg w V A ew (.FormattedValue e (-1) none pos) st al (.str x):=λ I M s Q E k q=>
 wpAny_FormattedValue_plain (h _ _ _ _ _ k λ L J N v D C G B H=>by
  obtain⟨_,rfl⟩:=H.inv;exact wpAny_formatField_str (q _ _ _ _ D C G B (.str _ _)) (q _ _ _ _ D C G.toks B (.str _ _)) hx)
theorem EJ.Ek (h:EJ pg w V A ew e st al (.int a))(D:a.natAbs.log2<1920):EJ pg w V A ew (.FormattedValue e (-1) none pos) st al (.str (toString a)):=λ I N s Q E k q=>
 wpAny_FormattedValue_plain (h _ _ _ _ _ k λ M J O v H G L B C=>by
  obtain⟨_,rfl⟩:=C.inv;exact wpAny_formatField_int D (q _ _ _ _ H G L.toks B (.str _ _)))
theorem EJ.Ic (h:EJ pg w V A ew e st al (.str x))(hx:(reprText x).length<=aH):EJ pg w V A ew (.FormattedValue e 114 none pos) st al (.str (reprText x)):=λ I M s Q E k q=>
 wpAny_FormattedValue_repr (h _ _ _ _ _ k λ L J N v D C G B H=>by
  obtain⟨_,rfl⟩:=H.inv;exact wpAny_pyReprObj_gives (typeIs_str _ _ _) F.slot_str_repr F.entry_str_repr (F.args_str_repr_1 _) (gives_str_repr _ _)
   (wpAny_formatField_str (q _ _ _ _ D C G.toks B (.str _ _)) (q _ _ _ _ D C G.toks.toks B (.str _ _)) hx) (hx:=hx))
theorem zJ (h:lm I ρ [x,y,z,r] vs):∃v u t p,vs=[v,u,t,p]/\ce I ρ x v/\ce I ρ y u/\ce I ρ z t/\ce I ρ r p:=by
 cases h with|cons a b=>cases b with|cons c d=>cases d with|cons e f=>cases f with|cons g h=>cases h;exact⟨_,_,_,_,rfl,a,c,e,g⟩
theorem Ym (x y:Str)(i j:Int)(t u v r:Tok):Gives (Builtin.«str.count» ⟨[.str x t,.str y u,.int i v,.int j r],[]⟩) (.int (cL x y (bg x.length i) (min (bg x.length j) x.length) (x.length+1)).length):=by
 show Gives (retInt (cL x y (bg x.length i) (min (bg x.length j) x.length) (x.length+1)).length) _;exact .of_eq rfl
theorem Pc (x y:Str)(i j:Int)(t u v r:Tok)(k:Nat)(h:vc x y (bg x.length i) (min (bg x.length j) x.length)=some k):Gives (Builtin.«str.rindex» ⟨[.str x t,.str y u,.int i v,.int j r],[]⟩) (.int k):=by
 show Gives (match vc x y (bg x.length i) (min (bg x.length j) x.length) with|some i=>retInt i|none=>(do rule "str.rindex.not-found";raiseError "ValueError" "substring not found")) _;rw[h];exact .of_eq rfl
theorem on.count:on pg w V A ew (.str x) st "count" "str.count":=on.str F.slot_str_count F.type_str_count
theorem on.rindex:on pg w V A ew (.str x) st "rindex" "str.rindex":=on.str F.slot_str_rindex F.type_str_rindex
theorem ds.Qy {x y:Str}{i j:Int}:ds pg w V A ew (.builtin "str.count") [.str x,.str y,.int i,.int j] st st (.int (cL x y (bg x.length i) (min (bg x.length j) x.length) (x.length+1)).length):=λ I L s Q E M B jp q=>by
 apply bd;intro J;obtain⟨v,u,t,p,rfl,D,H,C,G⟩:=zJ jp;obtain⟨_,rfl⟩:=D.inv;obtain⟨_,rfl⟩:=H.inv;cases C;cases G;apply J;exact call_gives F.slot_str_count (typeIs_str _ _ _) F.entry_str_count (F.args_str_count_4 _ _ _ _) (Ym x y i j _ _ _ _) (q.toks B (.int _ _))
theorem ds.Xc {x y:Str}{i j:Int}{k:Nat}(h:vc x y (bg x.length i) (min (bg x.length j) x.length)=some k):ds pg w V A ew (.builtin "str.rindex") [.str x,.str y,.int i,.int j] st st (.int k):=λ I L s Q E M B jp q=>by
 apply bd;intro J;obtain⟨v,u,t,p,rfl,D,H,C,G⟩:=zJ jp;obtain⟨_,rfl⟩:=D.inv;obtain⟨_,rfl⟩:=H.inv;cases C;cases G;apply J;exact call_gives F.slot_str_rindex (typeIs_str _ _ _) F.entry_str_rindex (F.args_str_rindex_4 _ _ _ _) (Pc x y i j _ _ _ _ k h) (q.toks B (.int _ _))
theorem Jf:entryFor aX "proto.unchain"=some Builtin.«proto.unchain»:=lK (by kernel_rfl)
noncomputable def cZ (g:Im)(x:Addr):Prop:=∃o vs,g x=some o/\o.data = .fields vs/\(vs[2]? = some .none\/∃y p us,vs[2]? = some (.ref y)/\g y=some p/\p.data = .fields us/\us[2]? = some .none)
theorem cZ.keeps {h h':Im}(H:cZ h x)(k:nw h h'):cZ h' x:=by
 apply bd;intro C;obtain⟨o,G,D,L,B⟩:=H;apply C;refine⟨o,G,k _ _ D,L,B.imp id λ B=>?_⟩;apply bd;intro C;obtain⟨y,p,J,a,b,c⟩:=B;apply C;exact⟨y,p,J,a,k _ _ b,c⟩
theorem BB {h:Heap}{it l a:Addr}{i:Nat}{o b:Obj}{vs:Array Value}{v:Value}(B:h.get? it=some b)(G:b.data = .fields #[.ref l,.int i 0])(D:h.get? a=some o)(H:o.data = .fields vs)(C:vs[2]? = some v):a≠it:=λ e=>by
 obtain rfl:=Option.some.inj ((e▸D).symm.trans B);obtain rfl:=Data.fields.inj (H.symm.trans G);exact bu C
theorem cZ.but {h h':Heap}{x it l:Addr}{i:Nat}{b:Obj}(H:cZ h.get? x)(B:h.get? it=some b)(D:b.data = .fields #[.ref l,.int i 0])(k:∀a o,a≠it->h.get? a=some o->h'.get? a=some o):cZ h'.get? x:=by
 apply bd;intro J;obtain⟨o,N,G,L,C⟩:=H;apply J;have n1:x≠it:=C.elim (λ z=>BB B D G L z) λ⟨y,p,M,a,_⟩=>BB B D G L a
 refine⟨o,N,k _ _ n1 G,L,C.imp id λ C=>?_⟩;apply bd;intro J;obtain⟨y,p,M,a,b,c,d⟩:=C;apply J;exact⟨y,p,M,a,k _ _ (BB B D b c d) b,c,d⟩
theorem cZ.refs {h:Im}{x:Addr}(H:cZ h x):∃o,h x=some o:=by obtain⟨o,_,e,_⟩:=H;exact ⟨o,e⟩
theorem Ul {s:ae}{h0:Im}{e x:Addr}{E:Value->ae->Prop}{Q:Value->ae->Prop}(H:cZ h0 x)(C:∀a o,h0 a=some o->s.heap.get? a=some o)(L:h0 e=none)(q:Q .none s):
  ag (af pg w) A (runValue (.builtin "proto.unchain" ⟨[.ref e,.ref x,.ref x,.bool false],[]⟩)) Q E s:=by
 apply bd;intro D;obtain⟨o,N,G,J,B⟩:=H;apply D;refine wpAny_runValue (gd Jf ?_)
 rcases B with B|B
 .refine aa (m:=field (.ref x) 2) (bf (C _ _ G) J B ?_);exact iF (decide_eq_true rfl) (ah q)
 .apply bd;intro D;obtain⟨y,p,M,a,b,c,d⟩:=B;apply D;refine aa (m:=field (.ref x) 2) (bf (C _ _ G) J a ?_);refine da (decide_eq_false (show ¬((dZ y==Value.none)=true) from nt)) (da (decide_eq_false (λ z=>bu (L.symm.trans (Value.ref.inj (eq_of_beq z)▸b)))) ?_);refine wpAny_ite ?_
  split
  .exact aa (fE (ah q))
  .refine aa (ah ?_);refine ah ⟨lL _ (by decide +kernel),gd Jf ?_⟩;refine aa (m:=field (.ref y) 2) (bf (C _ _ b) c d ?_);exact iF (decide_eq_true rfl) (ah q)
theorem JE {α:Type}{s:ae}{h0:Im}{e x:Addr}{C:Obj}{vs:Array Value}{Q:α->ae->Prop}{E:Value->ae->Prop}(J:A.handled=some (.ref x))(H:cZ h0 x)(G:∀a o,h0 a=some o->s.heap.get? a=some o)(D:h0 e=none)
  (O:s.heap.get? e=some C) (N:C.data = .fields vs) (hz:2<vs.size)
  (q:E (.ref e) {s with heap:=s.heap.update e (gc (·.setIfInBounds 2 (.ref x)))}):ag (af pg w) A (raiseNew (α:=α) (.ref e)) Q E s:=by
 apply bd;intro M;obtain⟨R,L⟩:=H.refs;apply M;have B:x≠e:=λ z=>bu (D.symm.trans (z▸L))
 unfold raiseNew;refine aa (wpAny_handled ?_);rw[J];refine iF (decide_eq_true (bne_iff_ne.mpr λ z=>B (Value.ref.inj z))) ?_;refine aa (aQ (Ul H G D ?_));exact aa (m:=setField (.ref e) 2 (.ref x)) (lH O N hz (wpAny_throw q))
theorem L7 {it l x:Addr}{i:Nat}{G:Obj}{items:Array Value}{s:ae}{Q:Option Value->ae->Prop}(M:A.handled=some (.ref x))(H:cZ s.heap.get? x)(B:s.heap.get? it=some G)(C:G.cls = .type "list_iterator")(gm:G.data = .fields #[.ref l,.int i 0])(N:s.heap.IsList l items)(hx:items[i]? = none)
  (R:∀h',gP it s.heap h'->Q none {s with heap:=h'}):ag (af pg w) A (pyNext (.ref it)) Q E s:=by
 apply bd;intro O;obtain(⟨U,lj,_,Y,kR⟩):=N;apply O;unfold pyNext;refine aa (wpAny_attempt (nI (name:=gT "__next__") ⟨_,B,C⟩ slot_listiter_next
  (jj slot_listiter_next ⟨_,B,C⟩ entry_listiter_next ?_ (args_listiter_next _))))
 refine aa (m:=field (.ref it) 0) (bf B gm (x:=.ref l) rfl ?_);refine da (decide_eq_false (show ¬((dZ l==Value.none)=true) from nt)) ?_;refine aa (m:=field (.ref it) 1) (bf B gm (x:=.int i 0) rfl ?_);refine aa (m:=seqItems? (.ref l)) (wpAny_seqItems lj kR ?_);simp only[gh,hx];refine aa (fE (aa (lH B gm (by simp) ?_)));refine aa (m:=newExc (.type "StopIteration") []) ?_;simp only[newExc,newTuple];refine aa (gN ?_ (by size_fits));refine aa (m:=firstArgMember _ _) (jk (a:=Value.none) (by first|rfl|(simp only[firstArgMember];rfl)) ?_);refine gN ?_ (by size_fits);rw[show ownMembersOf (Value.type "StopIteration") [] = #[] from rfl];generalize Pa:(s.heap.update it (gc (·.setIfInBounds 0 Value.none)))=h1;have D:ba it s.heap h1:=Pa▸gf ..;have L:cZ h1.get? x:=H.but B gm λ a o n e=>(D.2 a n).trans e
 have J:=cj (h1.push {cls:=.type "tuple",data:=.seq ([]:List Value).toArray}) (o:={cls:=.type "StopIteration",data:=.fields (#[.ref h1.objs.size,.none,.none,.none,.bool false,.none] ++ #[])}) rfl;refine JE (h0:=h1.get?) M L (λ a o e=>bH _ (bH _ e)) (Heap.get?_none_of_le (by simp)) J rfl (by simp) ?_;refine aa (pG (T:="StopIteration") (b:=true) ⟨_,eG _ J rfl,rfl⟩ isSubtype_stop ?_);refine ah (R _ λ a o n e=>?_);have e1:=(D.2 a n).trans e;exact(gS _ _ (eF (gb (bP e1) (by simp)))).trans (bH _ (bH _ e1))
noncomputable abbrev wY (x:Addr)(A:aD):Prop:=A.handled=some (.ref x)
theorem ND {l x:Addr}(H:Im->wl->Heap->Prop)(T:∀I D h,H I D h->cZ h.get? x/\∃items n,IsL h l (aM items) n/\lm I D xs items):
  ∀(ys:List PV) (k:Nat) (o:Obj),xs.drop k=ys->o.cls = .type "list_iterator"->o.data = .fields #[.ref l,.int k 0]->qX (wY x) pg w H ys o:=by
 intro ys
 induction ys with
 |nil=>
  intro k o C M G I D A s Q E f j N J q;apply bd;intro O;obtain⟨c,items,n,a,b⟩:x0222:=T _ _ _ N;apply O;refine L7 j c J M G a.isList ?_ λ L g=>q L s.toks g
  rw[gR];exact lG (b.length▸uI.mp C)
 |cons y ys Z=>
  intro k o C M G I D A s Q E f N J q;apply bd;intro O;obtain⟨_,items,n,a,b⟩:x0222:=T _ _ _ N;have Y:=jS C;obtain⟨v,V,U⟩:=b.get Y;apply O;refine wpAny_pyNext_list_item (l:=l) (i:=k) (x:=v) ⟨_,J,M,G⟩ a.isList (gR.trans V) λ L ⟨R,v6,eS,B⟩ d=>?_
  refine q v R L s.toks U v6 (fN eS B (by decide)) d.extBut (Z (k+1) R ?_ eS B);rw[<-List.drop_drop,C];rfl
theorem rc.VR {x:Addr}(H:cZ V x):sh (wY x) pg w V A ew (.lst xs) st xs (λ _=>True):=λ I R s Q E u k N q=>by
 apply bd;intro O;obtain⟨a,B,n,rfl,e,r⟩:=N.inv;apply O;exact wpAny_pyIter_list (IsL.isList (k.inv.lw _ _ e))<|q (λ J C h=>cZ h.get? x/\IsL h a (aM B) n/\lm J C xs B) _ s.toks (λ bn J C T _ D M L=>⟨(H.keeps (k.top.trans D)).keeps L.lw,L.lw _ _ (D _ _ e),r.mono D M⟩)
   (ND _ (λ I R h G=>⟨G.1,_,_,G.2.1,G.2.2⟩) xs 0 _ rfl rfl rfl) (fN rfl rfl (by decide)) rfl z6
theorem fo.mono {I B:Im}{body}(F:fo I f fd body)(h:nw I B):fo B f fd body:=
 ⟨by obtain⟨o,a,b⟩:=F.at_;exact ⟨o,h _ _ a,b⟩,by obtain⟨c,C,D,t,a,b,r⟩:x4202:=F.code;exact ⟨c,C,D,t,a,h _ _ b,r⟩,F.body,F.closure,F.glob,F.blt,F.kind,F.gen,F.co⟩
theorem OK.tX (k:OK pg w V ew st I ρ s)(h:nw I1 I):OK pg w I1 ew st I ρ s:=⟨k.inv,k.fr,k.gens,h,k.No⟩
theorem cu.mono {B:Im}(T:cu V mg mb)(h:nw V B):cu B mg mb:=λ C e=>T C λ a o z=>e a o (h a o z)
structure Bg (V:Im)(mg:Str->Option Value)(cd:Value)(c P:Addr):Prop where
 code:cd = .ref c
 at_:∀h:Heap,(∀a o,V a=some o->h.get? a=some o)->CodeHd h c P/\h.BuiltinsAt mg P
 ne:cf≠P
theorem Xn {n:Nat}{P}{Q:Flow->ae->Prop}(T:cu V mg mb)(K:ut ew)(N:Bg V mg ew.code c P)(hp:st.ph[n]? = some (PO.tab P pos qn))(hq:qualnameIn ew name name=qn)(d:closureFor scope ew=aq [])
  (hd0:params.defaults=[]) (hk0:params.kw_defaults=[]) (ha:annTrees params none ew=[]) (hl:az ew name) (VC:scope.kind = .function) (hg:scope.isGenerator=false) (hco:scope.isCoroutine=false) (k:OK pg w V ew st I ρ s)
  (q:∀J p f fd s1,nw I J->pu ρ p->OK pg w V ew {st with loc:=(name,.obj f)::st.loc} J p s1->s1.os=s.os->fo J f fd body->fd.params=params->fd.scope=scope->fd.defaults = .none->fd.kwdefaults = .none->Q .next s1):
  ag (af pg w) A (exec (.FunctionDef name params body [] none [] scope none name pos) ew) Q E s:=by
 refine nestDef_K hd0 hk0 ha ?_;rw[hq];apply bd;intro j;obtain⟨hC,hB⟩:x02:=N.at_ s.heap λ a o e=>k.inv.lw a o (k.top a o e)
 have hn:n<st.ph.length:=(cb.mp hp).1;obtain⟨as,R⟩:∃as,ρ[n]? = some as:=⟨ρ[n]'(k.inv.len▸hn),dc _⟩;obtain⟨ps,rfl,hP,y,M⟩:x1302:=k.inv.obj n _ _ hp R;apply j;have G:=k.tg T;have Z:∀{J g U D L Y t C B},nw I J->OK pg w V ew st J ρ {s with heap:=g}->J D=some L->L.data = .fields Y->Y[1]? = some (.str qn t) ->
   ag (af pg w) A (storeName ew name (.ref g.objs.size)) (λ _ cA=>Q .next cA) E {s with heap:=g.push (fnMade name qn params body scope [] B ((mg "__name__").getD .none) D C),toks:=U}:=λ{J g U D L Y t C B} le k1 eS hd' mS=>by
  have k2:=(k1.put (o:=fnMade name qn params body scope [] B ((mg "__name__").getD .none) D C) rfl).toks (k:=U);have kU:=k1.inv.Fa (o:=fnMade name qn params body scope [] B ((mg "__name__").getD .none) D C);refine qt (v:=.obj g.objs.size) K hl k2 (.obj _) λ I3 ρ3 s3 a3 b3 k3 d3=>?_
  exact q _ _ _ _ _ ((le.trans kU).trans a3) b3 k3 d3 ⟨⟨_,a3 _ _ Im.XV,rfl⟩,⟨D,L,Y,t,rfl,a3 _ _ (kU _ _ eS),hd',mS⟩,rfl,rfl,rfl,rfl,VC,hg,hco⟩ rfl rfl rfl rfl
 rcases M with M|M
 .refine makeFunction_K (clos:=[]) d K.glob G.1 N.code hC hP y M N.ne hB λ D C B r U hx AI hlt Qj gn=>?_
  apply bd;intro j;obtain⟨_,L,Y,t,e,zR,u,X⟩:x4203:=Qj;obtain rfl:=Value.ref.inj e;apply j;have ka:=k.setAt (tk:=s.toks) (o:=.gone) R (λ a ob z e=>hx a ob (λ q=>z (q▸.head _)) e) (λ a z=>aO.mp z▸⟨_,gn⟩) ⟨P,_,rfl,gn⟩;have O:=dE k AI;have kb:=ka.freeze ⟨O.im,O.gB,O.fr,O.fs⟩ zR;have kc:=kb.setAt (h':=r) (tk:=s.toks) (o:=.tab P pos qn) R (λ _ _ _ e=>e) (λ a z=>aO.mp z▸⟨_,gn⟩) ⟨_,rfl,gn,by
   rw[Array.toList_append];exact TriplesOk_snoc _ _ _ _ y,.inr ⟨_,L,Y,t,by rw[Array.toList_append];exact codeAmong_snoc _ y M,Im.XV,u,X⟩⟩
  have e:(st.ph.set n .gone).set n (.tab P pos qn)=st.ph:=by
   rw[List.set_set];exact List.ext_getElem? λ m=>by
    by_cases z:m=n
    .subst z;rw[j5 hn,hp]
    .rw[List.getElem?_set_ne (Ne.symm z)]
  have kd:OK pg w V ew st (I.put D L) ρ {s with heap:=r}:=by
   have:=kc;dsimp only at this;rw[e] at this;exact this
  exact Z (Fa O.im) kd Im.XV u X
 .apply bd;intro j;obtain⟨D,L,Y,t,M,zR,u,X⟩:x4203:=M;apply j;exact makeFunction_hit (clos:=[]) d K.glob G.1 N.code hC hP y M hB λ C B r U hk hz=>Z (.refl _) (k.grow hk) zR u X
structure Mk (C:Addr)(ew:aB)(st:PS)(I:Im)(ρ:wl)(h:Heap)(e:Addr):Prop where
 out:Sc ew st I ρ e
 at_:∃t,h.get? e=some {cls:=.ref C,data:=.fields #[.ref t,.none,.none,.none,.bool false,.none]}
noncomputable def EE (pg:aK)(w:aA)(V:Im)(A:aD)(ew:aB)(e:aF)(st bv:PS)(C:Addr):Prop:=
 ∀I ρ s Q E,OK pg w V ew st I ρ s->(∀I' ρ' s' x,nw I I'->pu ρ ρ'->OK pg w V ew bv I' ρ' s'->s'.os=s.os->Mk C ew bv I' ρ' s'.heap x->Q (.ref x) s')->ag (af pg w) A (eval e ew) Q E s
noncomputable def tz (pg:aK)(w:aA)(V:Im)(k:Nat)(f:Addr)(args:List PV)(ph bn:List PO)(C:Addr):Prop:=
 ∀A ew st I ρ s Q E vs,cV A k->Uf A ew st.fs->st.ph=ph->OK pg w V ew st I ρ s->lm I ρ args vs ->
  (∀I' ρ' s' x,nw I I'->pu ρ ρ'->OK pg w V ew {st with ph:=bn} I' ρ' s'->s'.os=s.os->Mk C ew {st with ph:=bn} I' ρ' s'.heap x->Q (.ref x) s')->ag (af pg w) A (call (.ref f) vs []) Q E s
theorem tz.of_body {ln bn}(T:cu V mg mb)(F:fo V f fd body)(c:re pg w V fd args [] loc)(g:ow fd loc)
  (h:∀A L fs,cV A k->Ctx A (callEnvC fd L f) fs->∀I J s Q E,OK pg w V (callEnvC fd L f) ⟨loc,ph,fs⟩ I J s ->
   (∀G B s' x,nw I G->pu J B->OK pg w V (callEnvC fd L f) ⟨ln,bn,fs⟩ G B s'->s'.os=s.os->Mk C (callEnvC fd L f) ⟨ln,bn,fs⟩ G B s'.heap x->Q (.ret (.ref x)) s')->ag (af pg w) A (execs body (callEnvC fd L f)) Q E s):
  tz pg w V (k+1) f args ph bn C:=by
 intro A ew st I J s Q E vs R C gV D jp q;subst gV;refine wpAny_call (F.enter T c g R C D jp ⟨rfl,.nil⟩ λ{I1 z s1 d h2 tk L} o j r O U p u m X=>h _ _ _ u m _ _ _ _ _ X λ I3 Z s3 x M N H o3 Y=>?_);apply bd;intro y;obtain⟨i9,lu,wL⟩:x03:=O.back U p M N H.inv H.gens H.No;apply y;exact q _ _ _ _ (o.trans lu) (j.trans N) i9 (o3.trans r) ⟨Y.out.back O U M,Y.at_⟩
theorem EE.bq {bn}(g:EJ pg w V A ew func st al (.obj f))(b:V f=some o)(Y:o.data = .func fd)(a:am pg w V A ew args al bi vs)
  (e:tz pg w V k f vs bi.ph bn C) (R:cV A k) (G:Uf A ew bi.fs)
  (J:eval (.Call func args [] pos) ew=(do du pos (<-eval func ew) [] (backTo pos (starEach args ew)) []):=by rfl):
  EE pg w V A ew (.Call func args [] pos) st {bi with ph:=bn} C:=λ I y s Q E h q=>by
 rw[J];refine aa (g _ _ _ _ _ h λ m i r v T N cX c j=>?_);obtain rfl:=j.inv;refine callWith_function (o:=o) (fd:=fd) (fV a cX λ l B u n O L PP H KM=>⟨⟨PP.inv.lw _ _ (PP.top _ _ b),Y⟩,?_⟩);exact e _ _ _ _ _ _ _ _ _ R G rfl PP KM λ t D p x M U d Z X=>q _ _ _ _ ((T.trans O).trans M) ((N.trans L).trans U) d (Z.trans (H.trans c)) X
theorem EE.We (T:cu V mg mb)(K:ut ew)(O:gX V mg x C)(d:ew.kindOf x=some .globalImplicit)(R:am pg w V A ew args st al vs)(J:vs.length<=aH)(m:(x==("__debug__" : Str))=false:=by decide):
  EE pg w V A ew (.Call (.Name x np) args [] cpos) st al C:=λ I ρ s Q E k q=>by
 apply bd;intro B;obtain⟨Z,tl,N,nm,qn,bs,U,sn,sub,ab,f,dd,k0,k1,D,k3,k5,mN,G,H⟩:=O;apply B;refine wpAny_Call_ofName (rv K.kind d (loadGlobal_global (K.glob▸(k.tg T).1) Z ?_) m);have y:=jV (pos:=cpos) (js R).1;show ag (af pg w) A (du cpos (.ref C) [] (backTo cpos (starEach args ew)) []) Q E s;unfold du;refine aa (aQ (fV R k λ I2 Y X g j c D p KM=>aa (a9 ?_)));apply bd;intro B;obtain⟨L,r,z⟩:x03:=H X.heap λ a o e=>D.inv.lw _ _ (D.top _ _ e)
 apply B;rw[y];refine aa (wpAny_keeperOf_exc L ?_);refine aa (wpAny_call_exc_subT (hrest:=by show g.length<=_;rw[<-KM.length];exact J) F.excBase_ValueError z L r G λ h' e M=>aa (aQ (wpAny_point (ah ?_))));apply bd;intro B;obtain⟨t,u,_,_⟩:x13:=M.there;apply B;exact q _ _ _ _ j c (D.grow M.keeps) p ⟨Bm D M.new,t,u⟩
theorem SX.wA (O:gX V mg x C)(hA:A.handled=none)(h:EE pg w V A ew e st al C):RJ pg w V A ew (exec (.Raise (some e) none pos) ew) st al (.ref C):=λ I ρ s Q E k q=>by
 apply bd;intro J;obtain⟨hb,z,N,R,m,f,B,L,sub,c,D,T,U,Y,g,d,Z,mN,j,H⟩:=O;have TL:=(H s.heap λ a o e=>k.inv.lw _ _ (k.top _ _ e)).2.2;apply J;rw[arm_exec_Raise];refine aa (a9 (wpAny_raiseStmt_made_sub (C:=C) (nm:=R) (q:=m) (N:=N) (bs:=f) (bm:=z) (hdct:=B) (sn:=L) (sub:=sub) (ab:=c) (col:=D) (dd:=T) (k0:=U) (k1:=Y) (k2:=g) (k3:=d) (k5:=Z) (newId:="ValueError.__new__") (TL.hasType (by decide)) hA
  (aa (h _ _ _ _ _ k λ I1 ρ1 X y u p jx d1 M=>aa (a9 (ah ?_))))))
 apply bd;intro J;obtain⟨r,_,_⟩:x03:=H X.heap λ a o e=>jx.inv.lw _ _ (jx.top _ _ e)
 obtain⟨t,G⟩:=M.at_;apply J;exact⟨y,t,rfl,r,G,q _ _ _ _ u p jx d1 ⟨M.out,⟨_,_,G,rfl,.inl rfl⟩,_,_,G,rfl,rfl,.inl rfl⟩⟩
noncomputable def qg (I:Im)(y:Addr):Prop:=∃o vs,I y=some o/\o.data = .fields vs/\vs[2]? = some .none
theorem qg.ch {I:Im}(h:qg I y):cZ I y:=by obtain⟨o,B,a,b,c⟩:=h;exact ⟨o,B,a,b,.inl c⟩
theorem SX.UY (O:gX V mg x C)(hA:A.handled=some (.ref y))(J:qg V y)(h:EE pg w V A ew e st al C):RJ pg w V A ew (exec (.Raise (some e) (some (.Constant .none kk cp)) pos) ew) st al (.ref C):=λ I ρ s Q E k q=>by
 apply bd;intro B;obtain⟨hb,L,N,nm,qn,bs,T,sn,sub,ab,c,dd,k0,k1,k2,k3,k5,mN,Y,H⟩:=O;have TL:=(H s.heap λ a o e=>k.inv.lw _ _ (k.top _ _ e)).2.2;apply B;have QC:L.contains (.type "BaseException")=true:=TL.hasType (by decide);have Ti:(dZ C::L).contains (.type "BaseException")=true:=by rw[List.contains_cons,QC,Bool.or_true]
 rw[arm_exec_Raise];refine aa (a9 ?_);show ag (af pg w) A (raiseStmt ew (some (do let v <-eval e ew;dv pos;aq v)) (some (do let v <-eval (.Constant .none kk cp) ew;dv pos;aq v))) Q E s;unfold raiseStmt;refine aa (aa (h _ _ _ _ _ k λ f ρ1 R z m j jx d1 M=>aa (a9 (ah ?_))));apply bd;intro B;obtain⟨D,_,_⟩:x03:=H R.heap λ a o e=>jx.inv.lw _ _ (jx.top _ _ e)
 obtain⟨t,G⟩:=M.at_;apply B;obtain(⟨U,g,d,tk,os⟩):=R
 repeat (first|with_reducible refine wpAny_loadPart_at G ?_|with_reducible refine wpAny_loadPart_at D ?_|(with_reducible refine wpAny_isSubtype_exc D ?_;rw[Ti])|wp_step)
 have Gl:z≠C:=λ q=>by
  have:=Option.some.inj ((q▸D).symm.trans G);exact nomatch congrArg Obj.cls this
 refine wpAny_loadPart_at ((gS _ _ Gl).trans ((gS _ _ Gl).trans D)) ?_;have rV:=eG (gc λ x=>x.setIfInBounds 3 Value.none) G rfl;have hO:=eG (gc λ x=>x.setIfInBounds 4 (Value.bool true)) rV rfl
 repeat (first|with_reducible refine wpAny_loadPart_at hO ?_|wp_step)
 have Hc:∀a o,U.get? a=some o->a≠z->((U.update z (gc λ x=>x.setIfInBounds 3 Value.none)).update z (gc λ x=>x.setIfInBounds 4 (Value.bool true))).get? a=some o:=λ a o e n=>
  (gS _ _ (Ne.symm n)).trans ((gS _ _ (Ne.symm n)).trans e)
 have qQ:=eG (gc λ x=>x.setIfInBounds 2 (dZ y)) hO rfl;refine JE (h0:=f) hA (J.ch.keeps jx.top) (λ a o e=>Hc a o (jx.inv.lw a o e) λ q=>bu (M.out.im.symm.trans (q▸e))) M.out.im hO rfl (by simp) ?_;apply bd;intro B;obtain⟨Z,p,y1,r,u⟩:=J;apply B;exact q _ _ _ _ m j (jx.beside (X:=λ a=>a=z) (λ a o e n=>⟨o,(gS _ _ (Ne.symm n)).trans (Hc a o e n),rfl,λ _ _=>rfl⟩) λ a e=>e▸M.out) d1
  ⟨M.out,⟨_,_,qQ,rfl,.inr ⟨λ _ q=>(nomatch q),y,Z,p,rfl,jx.top _ _ y1,r,u⟩⟩,_,_,qQ,rfl,rfl,.inl rfl⟩
theorem iV.put {I:Im}{h:Heap}(X:iV I h cls x)(L:I x=none)(Y:h.get? x=some o):cZ (I.put x o) x/\((∃n,cls = .type n)->qg (I.put x o) x):=by
 apply bd;intro C;obtain⟨D,G,R,H,B⟩:=X;apply C;obtain rfl:=Option.some.inj (R.symm.trans Y);refine⟨⟨D,G,Im.XV,H,B.imp id λ B=>?_⟩,λ M=>⟨D,G,Im.XV,H,B.elim id λ B=>?_⟩⟩
 .apply bd;intro C;obtain⟨y,p,U,T,O,J,N⟩:=B.2;apply C;exact⟨y,p,U,T,Fa L _ _ O,J,N⟩
 .obtain⟨n,e⟩:=M;exact(B.1 n e).elim
theorem iU.hold (k:OK pg w V ew st I ρ s)(X:iU ew st I ρ s.heap cls e):∃B,nw I B/\OK pg w B ew st B ρ s/\cZ B e/\((∃n,cls = .type n)->qg B e):=by
 apply bd;intro D;obtain⟨G,H,C,r⟩:=X.obj;apply D;obtain⟨p,q⟩:x02:=X.ctx.put X.out.im C;exact⟨_,Fa X.out.im,(k.freeze X.out C).tX (.refl _),p,q⟩
theorem Ctx.mark (C:Ctx A ew fs):Ctx (A.mark (some x)) ew fs:=⟨C.stack,C.frame,C.kind⟩
theorem SJ.PM {i4 tv}(C:Ctx A ew al.fs)(h1:RJ pg w V A ew (execs body ew) st al cls)(m:fZ pg w V ew t T)(Z:eV pg w V cls T true)
  (N:∀e D,nw V D->cZ D e->XJ pg w D (A.mark (some (.ref e))) ew (B::i4) al bi f):
  SJ pg w V A ew (.Try body (.ExceptHandler (some t) none (B::i4) tv::rest) [] [] pos) st bi f:=λ I ρ s Q E k q=>
 wpAny_Try_except (h1 _ _ _ _ _ k λ D ρ1 s1 e c Y d y j=>note C d j λ s2 k2 O p=>qq k2 p λ s3 k3 o3 X=>
  Bn m Z k3 X λ s4 G M R=>by
   apply bd;intro nk;obtain⟨z,H,o,hc,_⟩:x1302:=R.hold G;apply nk;exact N e z (G.top.trans H) hc _ _ _ _ _ o λ I6 U s6 g J b6 L r u=>q _ _ _ _ ((c.trans H).trans J) (Y.trans b6) (L.tX ((G.top.trans H).trans J)) (r.trans (M.trans (o3.trans (O.trans y)))) u)
theorem SX.qj {i4 tv}(C:Ctx A ew al.fs)(C2:Ctx A ew bi.fs)(h1:RJ pg w V A ew (execs body ew) st al (.type n))(p:fZ pg w V ew t T)(f:eV pg w V (.type n) T true)
  (N:∀e D,nw V D->qg D e->RJ pg w D (A.mark (some (.ref e))) ew (execs (B::i4) ew) al bi cls):
  RJ pg w V A ew (exec (.Try body (.ExceptHandler (some t) none (B::i4) tv::rest) [] [] pos) ew) st bi cls:=λ I ρ s Q E k q=>
 wpAny_Try_except (h1 _ _ _ _ _ k λ D ρ1 s1 e j c m X o=>note C m o λ s2 k2 O u=>qq k2 u λ s3 k3 o3 X3=>
  Bn p f k3 X3 λ s4 G M R=>by
   apply bd;intro nk;obtain⟨z,H,r,_,hc⟩:x1302:=R.hold G;apply nk;exact N e z (G.top.trans H) (hc ⟨_,rfl⟩) _ _ _ _ _ r λ I6 Y s6 x J b6 L y Z=>BQ C2.mark L Z λ s7 g d U=>q _ _ _ _ ((j.trans H).trans J) (c.trans b6) (g.tX ((G.top.trans H).trans J)) (d.trans (y.trans (M.trans (o3.trans (O.trans X))))) U.exc)
noncomputable def oK (pg:aK)(w:aA)(V:Im)(A:aD)(ew:aB)(kx vx:aF)(n:Nat)(bi lv:PS):Prop:=
 ∃cG fM c v es,EJ pg w V A ew kx bi cG (.str c)/\EJ pg w V A ew vx cG fM v/\fM.ph[n]? = some (.dict es none)/\es.length<=aH/\lv={fM with ph:=fM.ph.set n (.dict (bE es c v) none)}
theorem oK.run (f:cB V):qs pg w V A ew (.dct kx vx) (oK pg w V A ew kx vx n) n:=⟨λ{st lv I ρ s D E Q} h k d go=>by
 apply bd;intro q;obtain⟨cG,fM,c,v,N,L,m,o,B,rfl⟩:x213303:=h;apply q;refine aa (L _ _ _ _ _ k λ I1 r s1 u R G Y y p=>aa (aQ (m _ _ _ _ _ Y λ X H s2 t O C z Z g=>?_)));obtain⟨_,rfl⟩:=p.inv;refine aa (a9 (aQ ?_));have e:mr N c none=none:=rfl;exact Hj f z o B ((G.trans C) _ _ d) g λ I3 J s3 M T j U=>go ((R.trans O).trans M) ((G.trans C).trans T) (e▸j) (U.trans (Z.trans y))⟩
theorem NA:xJ pg w newDict (.dict [] none) {cls:=.type "dict",data:=.dict #[]}:=
 ⟨rfl,λ A Q E s q=>gN q,λ I C h a e=>⟨a,[],0,rfl,⟨_,#[],e,⟨rfl,rfl,rfl⟩,rfl,(λ e B=>absurd B (Array.not_mem_empty e)),.nil,List.nodup_nil⟩,(λ m e=>nomatch e),rfl,.nil⟩⟩
theorem EJ.dictcomp {ge ln}(T:cB V)(L:A.handled=none)(Y:P3 ew scope cl al.loc ge)
  (j:EJ pg w V A ew iter st al v) (R:rc pg w V A ew v al xs Hd)
  (g:∀C d,(∀vs,d≠Data.fields vs)->nT pg w V A (dM scope cl C ew) (oK pg w V A (dM scope cl C ew) kx vx al.ph.length) Hd [⟨target,iter,ifs,0⟩] xs ⟨ge,al.ph++[.dict [] none],(ew.locals,d)::al.fs⟩ ⟨ln,al.ph++[.dict es none],(ew.locals,d)::al.fs⟩)
  (f:∀x,iD iter ew x=aq x:=by intro _;rfl):
  EJ pg w V A ew (.DictComp kx vx [⟨target,iter,ifs,0⟩] scope pos) st {al with ph:=al.ph++[.dict es none]} (.ref al.ph.length):=λ I z s Q E k q=>by
 rw[arm_eval_DictComp];show ag (af pg w) A (comprehension ((CK.dct kx vx).ex [⟨target,iter,ifs,0⟩] scope pos) scope ew (firstIterPos [⟨target,iter,ifs,0⟩] pos) newDict false (eval iter ew) none) Q E s;refine AD (ck:=.dct kx vx) (em:=λ ew=>oK pg w V A ew kx vx al.ph.length) (use:=none) (Q:=Q) (E:=E) NA (λ _=>oK.run T) L (λ _=>L) Y j R g f k λ _ G _ U H D C d a b M _ J o ⟨m,N⟩ B=>⟨m,N,λ y nX=>?_⟩
 obtain⟨⟨u,KB,_⟩,O,Z,r⟩:x04:=J.No (C,d) (aN ..);have cX:OK pg w V ew {al with ph:=al.ph++[.dict es none]} U (G++[[D]]) H:=J.xq λ p c=>aT _ c
 exact q _ _ _ _ a (b.trans pu.push) (cX.extBut (tk:=H.toks) nX.extBut O Z r B) o (.ref (tP M.len.symm))
theorem V7 {ge db}:∀{xs:List PV}{kvs:List (Str×PV)}{es:List (Str×PV)},xs.length=kvs.length ->
  (∀(i:Nat) x B,xs[i]? = some x->kvs[i]? = some B->∀es,∃ey,AJ pg w V A ew target x ⟨ge,db++[.dict es none],fs⟩ ⟨ey,db++[.dict es none],fs⟩ /\
   EJ pg w V A ew kx ⟨ey,db++[.dict es none],fs⟩ ⟨ey,db++[.dict es none],fs⟩ (.str B.1)/\EJ pg w V A ew vx ⟨ey,db++[.dict es none],fs⟩ ⟨ge,db++[.dict es none],fs⟩ B.2) ->
  es.length+xs.length<=aH->nT pg w V A ew (oK pg w V A ew kx vx db.length) (λ _=>True) [⟨target,iter,[],0⟩] xs ⟨ge,db++[.dict es none],fs⟩ ⟨ge,db++[.dict (kvs.foldl (λ es B=>bE es B.1 B.2) es) none],fs⟩:=by
 intro xs
 induction xs with
 |nil=>
  intro kvs es h _ _;obtain rfl:=List.eq_nil_of_length_eq_zero h.symm;exact And.intro rfl ⟨trivial,rfl⟩
 |cons x xs Q2=>
  intro kvs es G h H
  cases kvs with
  |nil=>exact nomatch G
  |cons B kvs=>
  apply bd;intro O;obtain⟨ey,N,J,M⟩:x13:=h 0 x B rfl rfl es;apply O;have D:(bE es B.1 B.2).length<=es.length+1:=by
   unfold bE
   split
   .rw[aE];exact Nat.le_succ _
   .rw[aP];exact aJ _
  have L:=(Q2 (es:=bE es B.1 B.2) (Nat.succ.inj G) (λ i y q a b=>h (i+1) y q a b) (av (lU D _) (av (dK (by rw[cN];exact nq ..)) H)));have C:(db++[PO.dict es none]).set db.length (.dict (bE es B.1 B.2) none)=db++[PO.dict (bE es B.1 B.2) none]:=by simp
  refine And.intro rfl ⟨trivial,_,⟨_,_,true,N,b9.none,_,_,_,_,es,J,M,nB,av (dW _ _) H,rfl⟩,?_⟩;dsimp only;rw[C];exact L.2
theorem HH (s sub:Str)(hi B:Nat):∀(l:List Nat) (st:Array Nat×Nat),(∀i∈l,¬(i+sub.length<=hi/\gi s sub i=true))->(forIn l st (nJ s sub hi B)).run.fst=st.fst:=by
 intro C
 induction C with
 |nil=>
  intro st _;exact rfl
 |cons b l D=>
  intro st h;rw[lN];unfold nJ;rw[if_neg (λ q=>h b (.head _) ⟨q.1.2,q.2⟩)];exact D st λ i hi=>h i (.tail _ hi)
noncomputable def xN (s sub:Str)(hi:Nat)(i:Nat)(r:Option Nat):Id (ForInStep (Option Nat)):=if (decide (i+sub.length<=hi)&&gi s sub i)=true then aq (.yield (some i)) else aq (.yield r)
theorem Zg (s sub:Str)(lo hi:Nat):vc s sub lo hi=(forIn (j9 lo (hi+1 - lo)) none (xN s sub hi)).run:=by
 unfold vc xN
 simp
theorem NW (s sub:Str)(hi:Nat):∀(l:List Nat) (r:Option Nat),(∃i∈l,i+sub.length<=hi/\gi s sub i=true)\/(∃k,r=some k/\k<=hi)->∃k,(forIn l r (xN s sub hi)).run=some k/\k<=hi:=by
 intro D
 induction D with
 |nil=>
  intro r h;exact h.elim (λ⟨i,h,_⟩=>nomatch h) id
 |cons b l B=>
  intro r h;rw[lN];unfold xN
  by_cases q:b+sub.length<=hi/\gi s sub b=true
  .rw[if_pos (by rw[fG,(decide_eq_true_iff)];exact q)];exact B (some b) (.inr ⟨b,rfl,Nat.le_of_add_right_le q.1⟩)
  .rw[if_neg (by rw[fG,(decide_eq_true_iff)];exact q)];refine B r (h.imp (λ⟨i,G,C⟩=>⟨i,(aG.mp G).elim (λ e=>absurd (e▸C) q) id,C⟩) id)
theorem Vv {s sub:Str}{lo hi B:Nat}(h:(cL s sub lo hi B).length≠0):∃k,vc s sub lo hi=some k/\k<=hi:=by
 rw[Zg];refine NW s sub hi _ none (.inl (bd λ C=>h ?_));rw[StrLaws.occ_eq,HH s sub hi B _ _ λ i hi q=>C ⟨i,hi,q⟩]
 rfl
theorem Wo:∀{ns:List Int}{vs:List Value},lm I ρ (ns.map .int) vs->IntsAre vs ns:=by
 intro B
 induction B with
 |nil=>
  intro _ h;exact h.inv▸.nil
 |cons _ _ C=>
  intro _ h;obtain⟨_,_,rfl,a,b⟩:=h.inv;obtain⟨_,rfl⟩:=a.inv;exact .cons _ _ (C b)
theorem ds.sum {ns:List Int}(O:A.handled=none):ds pg w V A ew (.builtin "sum") [.lst (ns.map .int)] st st (.int ns.sum):=λ I Y s Q E Z k jp q=>by
 apply bd;intro M;obtain⟨v,rfl,N⟩:=cz jp;obtain⟨a,B,n,rfl,e,r⟩:=N.inv;have D:=Wo r;obtain⟨C,G⟩:=D.allInts.items;have L:=D.numsOf;apply M;have J:s.heap.IsList a (intItems C):=G▸IsL.isList (k.inv.lw _ _ e);refine sum_intListG O J λ T U R H=>?_
 have e2:preSum (numAt C) C.size=ns.sum:=by
  rw[preSum_eq,ve (by simp),<-nums_intItems,<-G];exact congrArg List.sum L
 rw[e2];exact q _ _ _ _ (.refl _) (.refl _) (k.grow H).toks rfl (.int _ _)
theorem ds.Mw {x y:Str}{k:Nat}{rest:List Nat}(h:cL x y 0 x.length 1=k::rest):ds pg w V A ew (.builtin "str.index") [.str x,.str y] st st (.int k):=λ I G s Q E H B jp q=>by
 obtain⟨v,u,rfl,D,C⟩:=gq jp;obtain⟨_,rfl⟩:=D.inv;obtain⟨_,rfl⟩:=C.inv;exact call_gives F.slot_str_index (typeIs_str _ _ _) F.entry_str_index (F.args_str_index_2 _ _) (gives_str_index x y _ _ k rest h) (q.toks B (.int _ _))
theorem RX.t8 {bn}(t:EJ pg w V A ew func st al (.obj f))(l:V f=some o)(g:o.data = .func fd)(i:am pg w V A ew (a::args) al bi vs)(mI:bM pg w V A ew kws bi lv kvs)
  (r:br pg w V k f vs kvs lv.ph bn c) (R:wn A k) (C:Uf A ew lv.fs)
  (T:eval (.Call func (a::args) kws pos) ew=(do du pos (<-eval func ew) [] (backTo pos (starEach (a::args) ew)) (backToKw pos (keywordEach kws ew))):=by rfl)
  (Y:starEach (a::args) ew=(false,eval a ew)::starEach args ew:=by rfl):
  RJ pg w V A ew (eval (.Call func (a::args) kws pos) ew) st {lv with ph:=bn} c:=λ I ρ s Q E h q=>by
 rw[T];refine aa (t _ _ _ _ _ h λ I1 u s1 v d Z cX n x=>?_);obtain(⟨_,rfl⟩):=x.inv;obtain⟨D,B⟩:x02:=mI.all (pos:=pos);refine callWith_function_kw (o:=o) (fd:=fd) (evalArgs_kw2 D (i.spliced cX λ y J s2 us b U PP O KM=>mI.evalAll PP λ I3 L s3 ks G H gL o3 AW=>?_) Y);refine⟨⟨gL.inv.lw _ _ (gL.top _ _ l),g⟩,?_⟩;rw[B];exact wpAny_call (r _ _ _ _ _ _ _ _ _ R C rfl gL (KM.mono G H) (Je AW) λ z m s4 e N j M p X=>q _ _ _ _ (((d.trans b).trans G).trans N) (((Z.trans U).trans H).trans j) M (p.trans (o3.trans (O.trans n))) X)
theorem SX.wg (C:RJ pg w V A ew (eval value ew) st al c)
  (B:exec (.Assign [t] value pos) ew=(do dv pos;let v <-eval value ew;PySem.assign t ew v;aq .next):=by rfl):RJ pg w V A ew (exec (.Assign [t] value pos) ew) st al c:=λ I D s Q E k q=>by
 rw[B];exact aa (a9 (aa (C _ _ _ _ _ k q)))
noncomputable def Ba (J:PS->PS->Prop):Nat->PS->PS->Prop
 |0,a,b=>b=a
 |n+1,a,b=>∃c,J a c/\Ba J n c b
noncomputable def FC (pg:aK)(w:aA)(V:Im)(A:aD)(ew:aB)(test:aF)(body:List aC)(a b:PS):Prop:=TJ pg w V A ew test a a true/\XJ pg w V A ew body a b .next
theorem WX.turns {B body bv}:∀{n st al},Ba (FC pg w V A ew B body) n st al->WX pg w V A ew B body 0 al bv c->WX pg w V A ew B body n st bv c:=by
 intro n
 induction n with
 |zero=>exact λ h C=>h▸C
 |succ n H=>intro _ _ h C;obtain⟨_,D,G⟩:=h;exact .next D.1 D.2 (.inl rfl) (H G C)
noncomputable abbrev pp:=PySem.Challenge.pw_oc0294_02
noncomputable def sA (i:Nat):aC:=pp.main.body.getD i default
noncomputable def uF:aC->List aF×List (List aC)×Arguments×Scope×Str
 | .FunctionDef n a b _ _ _ s _ _ _=>([],[b],a,s,n)
 | .ClassDef _ _ _ b _ _ _ _ _ _ _=>([],[b],default,default,default)
 | .Assign ts v _=>(v::ts,[],default,default,default)
 | .If t b o _=>([t],[b,o],default,default,default)
 | .While t b o _=>([t],[b,o],default,default,default)
 | .For t i b o _=>([t,i],[b,o],default,default,default)
 | .Return (some e) _=>([e],[],default,default,default)
 | .Try b (.ExceptHandler _ _ h _::_) _ _ _=>([],[b,h],default,default,default)
 |_=>([],[],default,default,default)
noncomputable def qZ:aF->List aF×List gg×Scope×List (Option aF)
 | .BinOp a _ b _=>([a,b],[],default,[])
 | .IfExp a b c _=>([a,b,c],[],default,[])
 | .Compare a _ l _=>(a::l,[],default,[])
 | .Call f l _ _=>(f::l,[],default,[])
 | .ListComp e g s _=>([e],g,s,[])
 | .GeneratorExp e g s _=>([e],g,s,[])
 | .Subscript a b _=>([a,b],[],default,[])
 | .Slice a b _ _=>([a.getD default,b.getD default],[],default,[])
 | .Tuple l _ _=>(l,[],default,[])
 | .List l _=>(l,[],default,[])
 | .Dict k l _=>(l,[],default,k)
 |_=>([],[],default,[])
noncomputable def KT (s:aC)(i:Nat):aF:=(uF s).1.getD i default
noncomputable def sub (e:aF)(i:Nat):aF:=(qZ e).1.getD i default
noncomputable def Jp (e:aF):gg:=(qZ e).2.1.headD ⟨default,default,[],0⟩
noncomputable def dh (s:aC)(i:Nat):List aC:=(uF s).2.1.getD i []
noncomputable def ay (s:aC):List aC:=dh s 0
noncomputable def iO (s:aC):Arguments:=(uF s).2.2.1
noncomputable def ax (s:aC):Scope:=(uF s).2.2.2.1
noncomputable def kz (s:aC):Str:=(uF s).2.2.2.2
noncomputable def gt (fd:aU)(d:aC):aU:={fd with scope:=ax d}
structure Ps (V:Im)(d:aC)(f:Addr)(fd:aU):Prop where
 fn:fo V f fd (ay d)
 params:fd.params=iO d
 scope:fd.scope=ax d
 dflt:fd.defaults = .none
 oU:fd.kwdefaults = .none
section
variable {d:aC}{f:Addr}{fd:aU}
theorem Ps.kind (D:Ps V d f fd)(h:(ax d).names.lookup x=some k):(callEnvC fd L f).kindOf x=some k:=by
 show fd.scope.names.lookup x=some k;rw[D.scope];exact h
theorem Ps.gz (D:Ps V d f fd)(L:Addr):callEnvC fd L f=callEnvC (gt fd d) L f:=by
 have h:=D.scope;obtain⟨⟩:=fd;cases h
 rfl
theorem Ps.hK (D:Ps V d f fd):ut (callEnvC (gt fd d) L f):=D.gz L▸D.fn.env L
theorem Ps.mt (D:Ps V d f fd):ut (callEnvC fd L f):=D.fn.env L
theorem Ps.locals (D:Ps V d f fd){xs:List Str}(h:∀x∈xs,(ax d).names.lookup x=some .local):
  ∀(L:Addr),∀x∈xs,fd.scope.names.lookup x=some .local\/(fd.scope.names.lookup x=some .cell/\((cellsFrom (L+1) fd.scope.names []).lookup x).isSome=true):=λ L x B=>.inl (by rw[D.scope];exact h x B)
theorem Ps.locs (D:Ps V d f fd){loc:List (Str×PV)}(xs:List Str)(h:xs.Nodup/\∀x∈xs,(ax d).names.lookup x=some .local)(e:loc.map (·.1)=xs):ow fd loc:=by
 subst e;exact⟨h.1,D.locals h.2⟩
theorem f9.nil (h:f9 I ρ [] kvs):kvs=[]:=List.map_eq_nil_iff.mp h.1.symm
theorem f9.cons {d}(h:f9 I ρ ((m,d)::l) kvs):∃p pY,kvs=(m,p)::pY/\ce I ρ d p/\f9 I ρ l pY:=by
 obtain⟨B,H⟩:x02:=h
 cases kvs with
 |nil=>exact nomatch B
 |cons b D=>
  apply bd;intro G;obtain⟨u,J,e,a,r⟩:=H.inv;obtain⟨e1,e2⟩:x02:=List.cons.inj e;apply G;have e1:b.2=u:=e1;have C:m=b.1:=(List.cons.inj B).1;exact⟨b.2,D,by rw[C],e1▸a,(List.cons.inj B).2,by rw[e2];exact r⟩
theorem re.p1 (h:∀u,bindArgs fd ⟨[u],[]⟩=aq [(x,u)]):re pg w V fd [a] [] [(x,a)]:=λ A D st I G s Q E H C R k jp bU q=>by
 obtain⟨u,rfl,B⟩:=cz jp;obtain rfl:=bU.nil;rw[h];exact ah (q _ _ _ _ (.refl _) (.refl _) k rfl ⟨rfl,.cons B .nil⟩)
theorem re.p2 (h:∀u v,bindArgs fd ⟨[u,v],[]⟩=aq [(x,u),(y,v)]):re pg w V fd [a,b] [] [(x,a),(y,b)]:=λ A G st I H s Q E J D R k jp bU q=>by
 obtain⟨u,v,rfl,B,C⟩:=gq jp;obtain rfl:=bU.nil;rw[h];exact ah (q _ _ _ _ (.refl _) (.refl _) k rfl ⟨rfl,.cons B (.cons C .nil)⟩)
theorem re.p3 (h:∀u v t,bindArgs fd ⟨[u,v,t],[]⟩=aq [(x,u),(y,v),(z,t)]):re pg w V fd [a,b,c] [] [(x,a),(y,b),(z,c)]:=λ A H st I J s Q E L G R k jp bU q=>by
 obtain⟨u,v,t,rfl,C,D,B⟩:=t5 jp;obtain rfl:=bU.nil;rw[h];exact ah (q _ _ _ _ (.refl _) (.refl _) k rfl ⟨rfl,.cons C (.cons D (.cons B .nil))⟩)
theorem re.BS {d}(h:∀u v t p q,bindArgs fd ⟨[u,v,t],[(m,p),(n,q)]⟩=aq [(x,u),(y,v),(z,t),(m,p),(n,q)]):re pg w V fd [a,b,c] [(m,d),(n,e)] [(x,a),(y,b),(z,c),(m,d),(n,e)]:=λ A O st I T s Q E U N R k jp bU q=>by
 apply bd;intro L;obtain⟨u,v,t,rfl,G,M,B⟩:=t5 jp;obtain⟨_,_,rfl,D,J⟩:=bU.cons;obtain⟨_,_,rfl,C,H⟩:=J.cons;apply L;obtain rfl:=H.nil;rw[h];exact ah (q _ _ _ _ (.refl _) (.refl _) k rfl ⟨rfl,.cons G (.cons M (.cons B (.cons D (.cons C .nil))))⟩)
theorem Ps.binds {B:Args}(D:Ps V d f fd)(h:∀fd:aU,bindArgs {fd with params:=iO d,defaults:=.none,kwdefaults:=.none} B=aq r):bindArgs fd B=aq r:=by
 have H:=D.params;have G:=D.dflt;have C:=D.oU;have h:=h fd;obtain⟨⟩:=fd;cases H;cases G;cases C;exact h
end
theorem WJ.steps:∀(n:Nat) (st:Nat->PS) {bv f},(∀i,i<n->TJ pg w V A ew test (st i) (st i) true/\XJ pg w V A ew body (st i) (st (i+1)) .next)->WJ pg w V A ew test body orelse 0 (st n) bv f->WJ pg w V A ew test body orelse n (st 0) bv f:=by
 intro C
 induction C with
 |zero=>
  intro st _ _ h B;exact B
 |succ n D=>
  intro st _ _ h B;exact .next (h 0 (eb ..)).1 (h 0 (eb ..)).2 (.inl rfl) (D (λ i=>st (i+1)) (λ i G=>h (i+1) (Nat.lt_succ_of_le G)) B)
theorem WX.steps {B body}:∀(n:Nat) (st:Nat->PS) {bv c},(∀i,i<n->TJ pg w V A ew B (st i) (st i) true/\XJ pg w V A ew body (st i) (st (i+1)) .next)->WX pg w V A ew B body 0 (st n) bv c->WX pg w V A ew B body n (st 0) bv c:=by
 intro D
 induction D with
 |zero=>
  intro st _ _ h C;exact C
 |succ n G=>
  intro st _ _ h C;exact .next (h 0 (eb ..)).1 (h 0 (eb ..)).2 (.inl rfl) (G (λ i=>st (i+1)) (λ i H=>h (i+1) (Nat.lt_succ_of_le H)) C)
section
variable {f:Addr}{fd:aU}
theorem fU {p:Nat}(h:p<2 ^ 62):fitsSsize (p:Int)=true:=by
 unfold fitsSsize
 simp
 exact XU h rfl
theorem ir {x:Str}{p c:Nat}(h:x.cps[p]? = some c):Txt.charAt x (p:Int)=some c:=by
 obtain⟨B,C⟩:=lI.mp h;unfold Txt.charAt;rw[seqIndex_of (je _) (by show((p:Nat):Int)<(x.cps.size:Nat);exact Int.ofNat_lt.mpr B)]
 simpa using h
noncomputable def UF (x:Str)(S:Str->Bool)(p:Nat):Nat:=p+((x.cps.toList.drop p).takeWhile λ c=>S (wP c)).length
theorem Pp {x:Str}{S:Str->Bool}{p i:Nat}(h:i<((x.cps.toList.drop p).takeWhile λ c=>S (wP c)).length):∃c,x.cps[p+i]? = some c/\S (wP c)=true:=by
 have C:=List.getElem_mem h;have G:=j6.mp (List.all_takeWhile (p:=λ c=>S (wP c)) (l:=x.cps.toList.drop p)) _ C;have B:(x.cps.toList.drop p)[i]? = some (((x.cps.toList.drop p).takeWhile λ c=>S (wP c))[i]):=by
  rw[<-dc h];have:=List.takeWhile_prefix (λ c=>S (wP c)) (l:=x.cps.toList.drop p);obtain⟨t,D⟩:=this
  conv=>lhs;rw[<-(D)]
  rw[cm h]
 refine⟨_,?_,G⟩
 simpa using B
theorem PF (p:Nat->Bool):∀l:List Nat,(l.takeWhile p).length=l.length\/∃c,l[(l.takeWhile p).length]? = some c/\p c=false:=by
 intro B
 induction B with
 |nil=>
  exact .inl rfl
 |cons c l C=>
  cases h:p c with
  |false=>exact .inr ⟨c,by simp[List.takeWhile,h],h⟩
  |true=>
   rcases C with e|⟨d,e1,e2⟩
   .exact .inl (by simp[List.takeWhile,h,e])
   .exact .inr ⟨d,by simpa [List.takeWhile,h] using e1,e2⟩
theorem SG {x:Str}{S}:(∃c,x.cps[UF x S p]? = some c/\S (wP c)=false)\/(x.cps.size<=UF x S p):=by
 rcases PF (λ c=>S (wP c)) (x.cps.toList.drop p) with e|⟨c,e1,e2⟩
 .right;unfold UF;rw[e];simp;lia
 .left;exact⟨c,by unfold UF;simpa using e1,e2⟩
noncomputable def sX (x:Str)(p:Nat)(a:Addr):List (Str×PV):=[("src",.str x),("pos",.int p),("chars",.obj a)]
theorem JK:eV pp w V (.type "IndexError") (.type "IndexError") true:=
 by
 have h:=eV.builtin (pg:=pp) (w:=w) (V:=V) (X:="IndexError") (T:="IndexError") (b:=true) (by rw[fD];kernel_rfl) (by rw[fD];kernel_rfl) (by rw[fD];kernel_rfl);exact h
theorem MM {x:Str}{S}(T:cu V mg mb)(Y:mg "IndexError"=none)(Nu:mb "IndexError"=some (.type "IndexError"))(D:Ps V (sA 12) f fd)(O:V a=some o)(F:EQ pp w o S)(p:Nat)(hx:x.length<2 ^ 61)(Z:p<2 ^ 61):
  nb pp w V 1 f [.str x,.int p,.obj a] [] ph ph (.int (UF x S p:Nat)):=by
 refine nb.of_body (loc:=sX x p a) (fl:=.ret (.int (UF x S p:Nat))) (ln:=sX x (UF x S p) a) T D.fn (re.p3 λ u v t=>D.binds λ _=>rfl) (D.locs ["src","pos","chars"] (by decide) rfl) ?_;intro A L U R C;have K:=D.mt (L:=L);generalize N:((x.cps.toList.drop p).takeWhile λ c=>S (wP c)).length=n;have M:p+n<2 ^ 62:=by
  have:n<=(x.cps.toList.drop p).length:=by
   rw[<-N];exact(List.takeWhile_prefix _).length_le
  rw[List.length_drop,ed] at this;have:x.cps.size<2 ^ 61:=hx
  lia
 have B:∀i,i<n->∃c,x.cps[p+i]? = some c/\S (wP c)=true:=λ i H=>Pp (by rw[N];exact H)
 have Gn:=SG (x:=x) (S:=S) (p:=p);have uj:UF x S p=p+n:=by unfold UF;rw[N]
 rw[uj] at Gn ⊢;refine XJ.cons (al:=⟨sX x (p+n) a,ph,U⟩) ?_ (XJ.ret (SJ.ret (EJ.loc rfl (D.kind rfl) K)))
 rcases Gn with⟨c,J,G⟩|AI
 .refine SJ.mL (XJ.cons (SJ.while (n:=n) (WJ.steps n (λ i=>⟨sX x (p+i) a,ph,U⟩) (λ i H=>by
   obtain⟨c,J,G⟩:=B i H;refine⟨G▸TJ.li (EJ.sub (EJ.loc rfl (D.kind rfl) K) (EJ.loc rfl (D.kind rfl) K) (GJ.str (fU (by lia)) (ir J))) (EJ.loc rfl (D.kind rfl) K) (CJ.in_froz O F),?_⟩;exact XJ.sw (XJ.cons (SJ.oo K (D.kind rfl) rfl EJ.ci) XJ.nil) (aw.cons rfl (aw.cons rfl (aw.cons rfl .nil)))) ?_)) XJ.nil)
  refine .done 0 ?_ XJ.nil;rw[<-G];exact TJ.li (EJ.sub (EJ.loc rfl (D.kind rfl) K) (EJ.loc rfl (D.kind rfl) K) (GJ.str (fU M) (ir J))) (EJ.loc rfl (D.kind rfl) K) (CJ.in_froz O F)
 .refine SJ.qj C (XX.head (SX.while C (n:=n) (WX.steps n (λ i=>⟨sX x (p+i) a,ph,U⟩) (λ i H=>by
   obtain⟨c,J,G⟩:=B i H;refine⟨G▸TJ.li (EJ.sub (EJ.loc rfl (D.kind rfl) K) (EJ.loc rfl (D.kind rfl) K) (GJ.str (fU (by lia)) (ir J))) (EJ.loc rfl (D.kind rfl) K) (CJ.in_froz O F),?_⟩;exact XJ.sw (XJ.cons (SJ.oo K (D.kind rfl) rfl EJ.ci) XJ.nil) (aw.cons rfl (aw.cons rfl (aw.cons rfl .nil)))) (.test 0 (TX.Wl (RX.Fd R.handled (EJ.loc rfl (D.kind rfl) K) (EJ.loc rfl (D.kind rfl) K) (fU M) (.inr ?_))))))) (fZ.blt T K (D.kind rfl) Y Nu) JK λ e=>XJ.cons SJ.pass XJ.nil
  show((x.cps.size:Nat):Int)<=_;exact Int.ofNat_le.mpr AI
end
noncomputable def Op (x:Str)(a b:Nat):Str:=⟨((x.cps.toList.drop a).take (b - a)).toArray⟩
theorem Hi {x:Str}{a b:Nat}:(Op x a b).length=min (b - a) (x.length - a):=by
 show((x.cps.toList.drop a).take (b - a)).toArray.size=_;rw[dJ,List.length_take,List.length_drop];rfl
theorem m7 {x:Str}{a b:Nat}:(Op x a b).length<=x.length:=Hi▸av (Nat.min_le_right ..) (Nat.sub_le ..)
theorem OM {x:Str}{a b:Nat}(B:b<=x.length):(Op x a b).length=b - a:=Hi.trans (nu (Nat.sub_le_sub_right B a))
theorem J5 {a b n:Nat}(h:b - a=n)(C:b<=n)(B:a<=b):b=n/\a=0:=by
 have e:b=n:=Nat.le_antisymm C (h▸Nat.sub_le b a);subst e;exact⟨rfl,(Nat.sub_sub_self B).symm.trans (by rw[h,Nat.sub_self])⟩
theorem EJ.qR {a b:Nat}(N:EJ pg w V A ew value st al (.str x))(O:PJ pg w V A ew lower al bi (some a))(M:PJ pg w V A ew upper bi lv (some b))(C:x.length<=aH)(B:a<=b)(D:b<=x.length)
  (L:∀o r,letTemporaryGo value o r=aq ():=by intro _ _;rfl):
  EJ pg w V A ew (.Subscript value (.Slice lower upper none p) pos) st lv (.str (Op x a b)):=by
 have e:=StrLaws.sliced_plain x B D;refine EJ.EP N O M C ?_ ?_ ?_ L
 .rw[e];rfl
 .intro G;rw[StrLaws.strSliceIndices_plain B D] at G
  simp at G
  obtain⟨H,J⟩:x02:=J5 G D B;subst J
  cases x with|mk c=>
  subst H;show(⟨_⟩:Str)=_;unfold Str.length
  simp
  rw[ve (by simp)]
 .exact av m7 C
theorem CJ.eq_none_str {x:Str}:CJ pg w V A ew .Eq .none (.str x) st false:=λ I D s Q E u v h B C q=>by
 cases B;cases C;exact EqNone.eq_none_str (q.here h (.bool _))
section
variable {f:Addr}{fd:aU}
structure sH (x:Str)(S:Str->Bool)(y:Str)(p k:Nat):Prop where
 sg:∃rest,cL x y p x.length 1=k::rest
 le:p<=k
 lt:k<=x.length
 free:((x.cps.toList.drop p).take (k - p)).all (λ c=>!S (wP c))=true
theorem H5 {x y:Str}{S}{p k:Nat}(T:cu V mg mb)(D:Ps V (sA 13) f fd)(G:V a=some o)(F:EQ pp w o S)(U:sH x S y p k)(hx:x.length<=aH):
  nb pp w V 1 f [.str x,.int p,.str y] [("error_on",.obj a),("error_on_eof",.bool e)] ph ph (.int k):=by
 refine nb.of_body (loc:=[("src",.str x),("pos",.int p),("expect",.str y),("error_on",.obj a),("error_on_eof",.bool e)]) (fl:=.ret (.int k)) (ln:=[("new_pos",.int k),("src",.str x),("pos",.int p),("expect",.str y),("error_on",.obj a),("error_on_eof",.bool e)]) T D.fn (re.BS λ u v t p q=>D.binds λ _=>rfl) (D.locs ["src","pos","expect","error_on","error_on_eof"] (by decide) rfl) ?_;intro A L H R C;have K:=D.mt (L:=L);obtain⟨B,tJ⟩:=U.sg;have AB:cL x y (bg x.length (p:Int)) x.length 1=k::B:=by
  have:bg x.length (p:Int)=p:=by unfold bg;rw[(if_neg qh)];exact rfl
  rw[this];exact tJ
 refine XJ.cons (SJ.mL (XJ.cons (SJ.assign K (.inl (D.kind rfl)) (EJ.io (EJ.loc rfl (D.kind rfl) K) on.index (am.cons (EJ.loc rfl (D.kind rfl) K) (am.cons (EJ.loc rfl (D.kind rfl) K) am.nil)) (ds.xe AB))) XJ.nil)) ?_;refine XJ.cons (SJ.iff (b:=false) (TJ.not (b:=true) (TJ.val (EJ.io (v:=.obj a) (EJ.loc rfl (D.kind rfl) K) (on.isdisjoint G F) (am.cons (EJ.qR (EJ.loc rfl (D.kind rfl) K) (PJ.some (EJ.loc rfl (D.kind rfl) K)) (PJ.some (EJ.loc rfl (D.kind rfl) K)) hx U.le U.lt) am.nil) (ds.isdisjoint R.handled G F)) ?_)) XJ.nil) (XJ.ret (SJ.ret (EJ.loc rfl (D.kind rfl) K)));have:=U.free;show VT _ _ _ _ _ (.bool (((x.cps.toList.drop p).take (k - p)).toArray.toList.all _)) _ _;rw[List.toList_toArray,this];exact VT.bool
end
noncomputable def mF:List Nat:=[12,13,14,15,16,17,18,19,27,48,50,51,52,53,54,55,56,57,58]
noncomputable def On (x:Str):Bool:=decide (x∈([⟨#[32]⟩,⟨#[9]⟩,⟨#[10]⟩]:List Str))
noncomputable def ct (x:Str):Bool:=match x.cps.toList with | [c]=>(decide (c<32)&&c != 9)||c==127|_=>false
noncomputable def fg (x:Str):Bool:=match x.cps.toList with | [c]=>XL.contains c|_=>false
noncomputable def th:List (Str×Value):=[("IndexError",.type "IndexError"),("ValueError",.type "ValueError"),("StopIteration",.type "StopIteration"),("len",.builtin "len"),("int",.type "int"),("chr",.builtin "chr"),("ord",.builtin "ord"),("range",.type "range"),
 ("sorted",.builtin "sorted"),("tuple",.type "tuple"),("type",.type "type"),("bool",.type "bool"),("set",.type "set"),("iter",.builtin "iter"),("enumerate",.type "enumerate"),("sum",.builtin "sum")]
noncomputable def xk:List (Str×Int):=[("S_IFREG",32768),("S_IFDIR",16384),("S_IFLNK",40960),("S_IFSOCK",49152),("_NODE_OUT",-1),("_NODE_DONE",-2)]
structure Top1 (w:aA)(V:Im)(mg mb:Str->Option Value) where
 T:cu V mg mb
 fn:Nat->Addr
 fd:Nat->aU
 defs:∀i∈mF,Ps V (sA i) (fn i) (fd i)/\mg (kz (sA i))=some (.ref (fn i))
 fT:∀p∈th,mg p.1=none/\mb p.1=some p.2
 wI:∀p∈xk,∃t,mg p.1=some (.int p.2 t)
 ws:Addr
 uB:Obj
 wB:mg "TOML_WS_AND_NEWLINE"=some (.ref ws)
 v8:V ws=some uB
 vS:EQ pp w uB On
 ill:Addr
 um:Obj
 sm:mg "ILLEGAL_LITERAL_STR_CHARS"=some (.ref ill)
 sv:mg "ILLEGAL_COMMENT_CHARS"=some (.ref ill)
 oj:V ill=some um
 og:EQ pp w um ct
 hex:Addr
 tV:Obj
 qd:mg "HEXDIGIT_CHARS"=some (.ref hex)
 kj:V hex=some tV
 kT:EQ pp w tV fg
 mods:cB V
 bX:Addr
 iP:gX V mg "TOMLDecodeError" bX
 vZ:Addr
 ou:Addr
 qE:Bg V mg (fd 18).code vZ ou
section
variable {f:Addr}{fd:aU}
theorem Top1.d (G:Top1 w V mg mb)(i:Nat)(h:i∈mF:=by decide):Ps V (sA i) (G.fn i) (G.fd i):=(G.defs i h).1
theorem Top1.g (G:Top1 w V mg mb)(i:Nat)(h:i∈mF:=by decide):mg (kz (sA i))=some (.ref (G.fn i)):=(G.defs i h).2
theorem EJ.top (G:Top1 w V mg mb)(K:ut ew)(i:Nat)(B:kz (sA i)=x)(D:ew.kindOf x=some .globalImplicit)(h:i∈mF:=by decide)(C:(x==("__debug__" : Str))=false:=by decide):
  EJ pp w V A ew (.Name x pos) st st (.obj (G.fn i)):=EJ.glob G.T K D (B▸G.g i h) (λ _ _ _=>.obj _) C
theorem EJ.builtin (G:Top1 w V mg mb)(K:ut ew)(H:∀I B,ce I B r v)(D:ew.kindOf x=some .globalImplicit)(h:(x,v)∈th:=by decide)(C:(x==("__debug__" : Str))=false:=by decide):
  EJ pp w V A ew (.Name x pos) st st r:=EJ.blt G.T K D (G.fT _ h).1 (G.fT _ h).2 (λ I B _=>H I B) C
theorem EJ.int_ (G:Top1 w V mg mb)(K:ut ew)(C:ew.kindOf x=some .globalImplicit)(h:(x,v)∈xk:=by decide)(B:(x==("__debug__" : Str))=false:=by decide):
  EJ pp w V A ew (.Name x pos) st st (.int v):=by
 obtain⟨t,e⟩:=G.wI _ h;exact EJ.glob G.T K C e (λ _ _ _=>.int _ _) B
inductive jN (x:Str):Nat->Nat->Prop
 |eof {p}:x.length<=p->jN x p p
 |other {p c}:x.cps[p]? = some c->c≠35->jN x p p
 |hash {p k}:x.cps[p]? = some 35->sH x ct ⟨#[10]⟩ (p+1) k->jN x p k
set_option tactic.hygienic true in
theorem T3 {x:Str}{p q:Nat}(G:Top1 w V mg mb)(U:jN x p q)(hx:x.length<2 ^ 24)(M:p<2 ^ 31):
  nb pp w V 2 (G.fn 14) [.str x,.int p] [] ph ph (.int q):=by
 have D:=G.d 14;have J:x.length<=aH:=by rw[ak];exact dq hx
 refine nb.of_body (loc:=[("src",.str x),("pos",.int p)]) (fl:=.ret (.int q)) (ln:=[("src",.str x),("pos",.int p)]) G.T D.fn (re.p2 λ u v=>D.binds λ _=>rfl) (D.locs ["src","pos"] (by decide) rfl) ?_;intro A L H R C;have K:=D.mt (L:=L);have B:∀v,aw [("src",PV.str x),("pos",.int p)] [("char",v),("src",.str x),("pos",.int p)]:=λ v=>aw.cons rfl (aw.cons rfl .nil)
 cases U with
 |eof h=>
  refine XJ.sw (al:=⟨[("char",.none),("src",.str x),("pos",.int p)],ph,H⟩) (XJ.cons (SJ.qj C (XX.head (SX.assign (RX.Fd R.handled (EJ.loc rfl (D.kind rfl) K) (EJ.loc rfl (D.kind rfl) K) (fU (p:=p) (ww M rfl)) (.inr (Int.ofNat_le.mpr h))))) (fZ.blt G.T K (D.kind rfl) (G.fT ("IndexError",.type "IndexError") (by decide)).1 (G.fT ("IndexError",.type "IndexError") (by decide)).2) JK λ e=>XJ.cons (SJ.assign K (.inl (D.kind rfl)) EJ.const_none) XJ.nil) ?_) (B .none);refine XJ.cons (SJ.iff (TJ.li (EJ.loc rfl (D.kind rfl) K) EJ.cs CJ.eq_none_str) XJ.nil) (XJ.ret (SJ.ret (EJ.loc rfl (D.kind rfl) K)))
 |other N O=>
  rename_i c
  refine XJ.sw (al:=⟨[("char",.str ⟨#[c]⟩),("src",.str x),("pos",.int p)],ph,H⟩) (XJ.cons (SJ.mL (XJ.cons (SJ.assign K (.inl (D.kind rfl)) (EJ.sub (EJ.loc rfl (D.kind rfl) K) (EJ.loc rfl (D.kind rfl) K) (GJ.str (fU (ww M rfl)) (ir N)))) XJ.nil)) ?_) (B (.str ⟨#[c]⟩));have e:((⟨#[c]⟩:Str)==("#" : Str))=false:=by
   rw[(beq_eq_false_iff_ne)];intro e;apply O;have:=congrArg Str.cps e;have:(#[c]:Array Nat) = #[35]:=this
   simpa using this
  refine XJ.cons (SJ.iff (b:=false) (e▸TJ.li (EJ.loc rfl (D.kind rfl) K) EJ.cs CJ.eq_str) XJ.nil) (XJ.ret (SJ.ret (EJ.loc rfl (D.kind rfl) K)))
 |hash N O=>
  refine XJ.sw (al:=⟨[("char",.str ⟨#[35]⟩),("src",.str x),("pos",.int p)],ph,H⟩) (XJ.cons (SJ.mL (XJ.cons (SJ.assign K (.inl (D.kind rfl)) (EJ.sub (EJ.loc rfl (D.kind rfl) K) (EJ.loc rfl (D.kind rfl) K) (GJ.str (fU (ww M rfl)) (ir N)))) XJ.nil)) ?_) (B (.str ⟨#[35]⟩));have e:((⟨#[35]⟩:Str)==("#" : Str))=true:=by decide
  refine XJ.ret (SJ.iff (b:=true) (e▸TJ.li (EJ.loc rfl (D.kind rfl) K) EJ.cs CJ.eq_str) (XJ.ret (SJ.ret ?_)));have T:=G.d 13;obtain⟨o,Ok,At⟩:=T.fn.at_;refine EJ.t8 (cG:=⟨[],[],[]⟩) (EJ.top G K 13 rfl (D.kind rfl)) Ok At (am.cons (EJ.loc rfl (D.kind rfl) K) (am.cons (EJ.bin (EJ.loc rfl (D.kind rfl) K) EJ.ci BJ.add_int) (am.cons EJ.cs am.nil))) (bM.cons (EJ.glob G.T K (D.kind rfl) G.sv (λ _ _ _=>.obj _)) (bM.cons EJ.fu bM.nil)) ?_ R C.cw;exact H5 G.T T G.oj G.og O J
inductive jz (x:Str):Nat->Nat->Prop
 |stop {p}:jN x (UF x On p) p->jz x p p
 |go {p q r}:jN x (UF x On p) q->q≠p->q<2 ^ 31->jz x q r->jz x p r
noncomputable def gl (l:List aC)(i:Nat):aC:=l.getD i default
noncomputable def dP (s:aC):aF:=KT s 0
noncomputable def TI (s:aC):List aC:=dh s 0
theorem TC {x:Str}(hx:x.length<2 ^ 24){p:Nat}(B:p<2 ^ 31):UF x On p<2 ^ 31:=by
 unfold UF;have D:=(List.takeWhile_prefix (λ c=>On (wP c)) (l:=x.cps.toList.drop p)).length_le;have C:(x.cps.toList.drop p).length=x.cps.size - p:=by simp
 have:x.cps.size<2 ^ 24:=hx
 lia
theorem Jq {x:Str}{ph:List PO}{L:Addr}{p:Nat}(G:Top1 w V mg mb)(R:wn A 1)(C:Ctx A (callEnvC (G.fd 15) L (G.fn 15)) fs)(hx:x.length<2 ^ 24)(B:p<2 ^ 31):
  SJ pp w V A (callEnvC (G.fd 15) L (G.fn 15)) (gl (TI (gl (ay (sA 15)) 0)) 1) ⟨[("pos_before_skip",.int p),("src",.str x),("pos",.int p)],ph,fs⟩ ⟨[("pos",.int (UF x On p:Nat)),("pos_before_skip",.int p),("src",.str x),("pos",.int p)],ph,fs⟩ .next:=by
 have D:=G.d 15;have K:=D.mt (L:=L);apply bd;intro H;obtain⟨J,tq,s8⟩:=(G.d 12).fn.at_;apply H;exact SJ.assign K (.inl (D.kind rfl)) (EJ.bq (EJ.top G K 12 rfl (D.kind rfl)) tq s8 (am.cons (EJ.loc rfl (D.kind rfl) K) (am.cons (EJ.loc rfl (D.kind rfl) K) (am.cons (EJ.glob G.T K (D.kind rfl) G.wB (λ _ _ _=>.obj _)) am.nil))) (MM G.T (G.fT ("IndexError",.type "IndexError") (by decide)).1 (G.fT ("IndexError",.type "IndexError") (by decide)).2 (G.d 12) G.v8 G.vS p (ww hx rfl) (ww B rfl)) R C.cw)
theorem E0 {x:Str}{ph:List PO}{L:Addr}{p q:Nat}(G:Top1 w V mg mb)(R:wn A 2)(C:Ctx A (callEnvC (G.fd 15) L (G.fn 15)) fs)(hx:x.length<2 ^ 24)(B:p<2 ^ 31)(H:jN x (UF x On p) q){bv}
  (h:XJ pp w V A (callEnvC (G.fd 15) L (G.fn 15)) [gl (TI (gl (ay (sA 15)) 0)) 3] ⟨[("pos",.int q),("pos_before_skip",.int p),("src",.str x)],ph,fs⟩ bv fl):
  XJ pp w V A (callEnvC (G.fd 15) L (G.fn 15)) (TI (gl (ay (sA 15)) 0)) ⟨[("src",.str x),("pos",.int p)],ph,fs⟩ bv fl:=by
 have D:=G.d 15;have K:=D.mt (L:=L);apply bd;intro J;obtain⟨M,n4,oR⟩:=(G.d 14).fn.at_;apply J;refine XJ.cons (SJ.assign K (.inl (D.kind rfl)) (EJ.loc rfl (D.kind rfl) K)) (XJ.cons (Jq G (R.mono (by decide)) C hx B) ?_);refine XJ.cons (SJ.assign K (.inl (D.kind rfl)) (EJ.bq (EJ.top G K 14 rfl (D.kind rfl)) n4 oR (am.cons (EJ.loc rfl (D.kind rfl) K) (am.cons (EJ.loc rfl (D.kind rfl) K) am.nil)) (T3 G H hx (TC hx B)) R C.cw)) ?_;exact XJ.pre h (aw.cons rfl (aw.cons rfl (aw.cons rfl .nil)))
theorem EO {x:Str}{ph:List PO}{L:Addr}{p q:Nat}(G:Top1 w V mg mb)(R:wn A 2)(C:Ctx A (callEnvC (G.fd 15) L (G.fn 15)) fs)(hx:x.length<2 ^ 24)(B:p<2 ^ 31)(J:jN x (UF x On p) q)(H:q≠p):
  XJ pp w V A (callEnvC (G.fd 15) L (G.fn 15)) (TI (gl (ay (sA 15)) 0)) ⟨[("src",.str x),("pos",.int p)],ph,fs⟩ ⟨[("src",.str x),("pos",.int q)],ph,fs⟩ .next:=by
 have D:=G.d 15;have K:=D.mt (L:=L);refine E0 G R C hx B J (XJ.sw (al:=⟨[("pos",.int q),("pos_before_skip",.int p),("src",.str x)],ph,fs⟩) (XJ.cons (SJ.iff (b:=false) ?_ XJ.nil) XJ.nil) (aw.cons rfl (aw.cons rfl .nil)));have e:((q:Int)==(p:Int))=false:=by rw[(beq_eq_false_iff_ne)];lia
 exact e▸TJ.li (EJ.loc rfl (D.kind rfl) K) (EJ.loc rfl (D.kind rfl) K) CJ.eq_int
theorem Eh {x:Str}{p q:Nat}(G:Top1 w V mg mb)(U:jz x p q)(hx:x.length<2 ^ 24)(H:p<2 ^ 31):
  nb pp w V 3 (G.fn 15) [.str x,.int p] [] ph ph (.int q):=by
 have D:=G.d 15;refine nb.of_body (loc:=[("src",.str x),("pos",.int p)]) (fl:=.ret (.int q)) (ln:=[("src",.str x)]) G.T D.fn (re.p2 λ u v=>D.binds λ _=>rfl) (D.locs ["src","pos"] (by decide) rfl) ?_;intro A L J R C;have K:=D.mt (L:=L);have B:∀p q,p<2 ^ 31->jz x p q->∃n,WJ pp w V A (callEnvC (G.fd 15) L (G.fn 15)) (dP (gl (ay (sA 15)) 0)) (TI (gl (ay (sA 15)) 0)) [] n ⟨[("src",.str x),("pos",.int p)],ph,J⟩ ⟨[("src",.str x)],ph,J⟩ (.ret (.int q)):=by
  intro p q H U
  induction U with
  | @stop p h=>
   refine⟨0,.ret 0 (TJ.val EJ.fu VT.bool) (E0 G R C hx H h (XJ.sw (al:=⟨[("pos",.int p),("pos_before_skip",.int p),("src",.str x)],ph,J⟩) (XJ.ret (SJ.iff (b:=true) ?_ (XJ.ret (SJ.ret (EJ.loc rfl (D.kind rfl) K))))) (aw.cons rfl .nil)))⟩;exact(beq_self_eq_true (p:Int))▸TJ.li (EJ.loc rfl (D.kind rfl) K) (EJ.loc rfl (D.kind rfl) K) CJ.eq_int
  | @go p Y r O T N Z M=>
   obtain⟨n,W⟩:=M N;exact⟨n+1,.next (TJ.val EJ.fu VT.bool) (EO G R C hx H O T) (.inl rfl) W⟩
 obtain⟨n,W⟩:=B p q H U;exact XJ.ret (SJ.while W)
theorem Sn {x:Str}{p k:Nat}(G:Top1 w V mg mb)(U:sH x ct ⟨#[39]⟩ (p+1) k)(hx:x.length<2 ^ 24):
  nb pp w V 2 (G.fn 17) [.str x,.int p] [] ph ph (.tup [.int (k+1:Nat),.str (Op x (p+1) k)]):=by
 have D:=G.d 17;have B:x.length<=aH:=by rw[ak];exact dq hx
 refine nb.of_body (loc:=[("src",.str x),("pos",.int p)]) (fl:=.ret (.tup [.int (k+1:Nat),.str (Op x (p+1) k)])) (ln:=[("src",.str x)]) G.T D.fn (re.p2 λ u v=>D.binds λ _=>rfl) (D.locs ["src","pos"] (by decide) rfl) ?_;intro A L J R C;have K:=D.mt (L:=L);have H:=G.d 13;obtain⟨o,Ok,At⟩:=H.fn.at_;refine XJ.sw (al:=⟨[("pos",.int k),("start_pos",.int ((p:Int)+1)),("pos",.int ((p:Int)+1)),("src",.str x),("pos",.int p)],ph,J⟩) ?_ (aw.cons rfl .nil);refine XJ.cons (SJ.oo K (D.kind rfl) rfl EJ.ci) ?_;refine XJ.cons (SJ.assign K (.inl (D.kind rfl)) (EJ.loc rfl (D.kind rfl) K)) ?_;refine XJ.cons (SJ.assign K (.inl (D.kind rfl)) (EJ.t8 (cG:=⟨[],[],[]⟩) (EJ.top G K 13 rfl (D.kind rfl)) Ok At (am.cons (EJ.loc rfl (D.kind rfl) K) (am.cons (EJ.loc rfl (D.kind rfl) K) (am.cons EJ.cs am.nil))) (bM.cons (EJ.glob G.T K (D.kind rfl) G.sm (λ _ _ _=>.obj _)) (bM.cons EJ.fu bM.nil)) (H5 G.T H G.oj G.og U B) R C.cw)) ?_;refine XJ.ret (SJ.ret (EJ.tuple (am.cons (EJ.bin (EJ.loc rfl (D.kind rfl) K) EJ.ci BJ.add_int) (am.cons (EJ.qR (EJ.loc rfl (D.kind rfl) K) (PJ.some (EJ.loc rfl (D.kind rfl) K)) (PJ.some (EJ.loc rfl (D.kind rfl) K)) B U.le U.lt) am.nil)) (by simp[ak])))
theorem PB {n:Nat}(G:Top1 w V mg mb)(h:n<55296):
  nb pp w V 1 (G.fn 19) [.int n] [] ph ph (.bool true):=by
 have D:=G.d 19;refine nb.of_body (loc:=[("codepoint",.int n)]) (fl:=.ret (.bool true)) (ln:=[("codepoint",.int n)]) G.T D.fn (re.p1 λ u=>D.binds λ _=>rfl) (D.locs ["codepoint"] (by decide) rfl) ?_;intro A L B R C;have K:=D.mt (L:=L);have e1:decide ((0:Int)<=(n:Int))=true:=by simp
 have e2:decide ((n:Int)<=55295)=true:=by simp;lia
 refine XJ.ret (SJ.ret (EJ.GP (EJ.Au (x:=true) (y:=true) EJ.ci (EJ.loc rfl (D.kind rfl) K) (e1▸CJ.le_int) ?_) VT.bool));exact⟨_,EJ.ci,e2▸CJ.le_int⟩
noncomputable def c6 (a b c d:Nat):Nat:=((bO a * 16+bO b) * 16+bO c) * 16+bO d
structure ux (x:Str)(p a b c d:Nat):Prop where
 at_:Op x p (p+4)=⟨#[a,b,c,d]⟩
 le:p+4<=x.length
 ha:a∈([56,52,97,99,65,67,100,68]:List Nat)
 hb:b∈XL
 hc:c∈XL
 hd:d∈XL
theorem m1 (h:c∈XL):fg (wP c)=true:=by
 unfold fg wP;simpa using h
theorem Ai {x n y:Nat}(h:x<n)(g:y<16):x * 16+y<n * 16:=gb (Nat.add_lt_add_left g (x * 16)) (Nat.succ_mul x 16▸lV 16 h)
theorem W6 (H:ux x p a b c d):c6 a b c d<65536:=by
 have G:=(ie.of H.hb).small;have D:=(ie.of H.hc).small;have B:=(ie.of H.hd).small;have C:bO a<16:=(by decide:∀a∈([56,52,97,99,65,67,100,68]:List Nat),bO a<16) a H.ha;exact Ai (Ai (Ai C G) D) B
theorem Og {x:Str}{p a b c d:Nat}(G:Top1 w V mg mb)(H:ux x p a b c d)(N:c6 a b c d<55296)(hx:x.length<2 ^ 24):
  nb pp w V 2 (G.fn 16) [.str x,.int p,.int 4] [] ph ph (.tup [.int (p+4:Nat),.str ⟨#[c6 a b c d]⟩]):=by
 have D:=G.d 16;have J:x.length<=aH:=by rw[ak];exact dq hx
 refine nb.of_body (loc:=[("src",.str x),("pos",.int p),("hex_len",.int 4)]) (fl:=.ret (.tup [.int (p+4:Nat),.str ⟨#[c6 a b c d]⟩])) (ln:=[("src",.str x)]) G.T D.fn (re.p3 λ u v t=>D.binds λ _=>rfl) (D.locs ["src","pos","hex_len"] (by decide) rfl) ?_;intro A L B R C;have K:=D.mt (L:=L);obtain⟨o,Ok,At⟩:=(G.d 19).fn.at_;have M:a∈XL:=(by decide:∀a∈([56,52,97,99,65,67,100,68]:List Nat),a∈XL) a H.ha;refine XJ.sw (al:=⟨[("hex_int",.int (c6 a b c d)),("pos",.int ((p:Int)+4)),("hex_str",.str ⟨#[a,b,c,d]⟩),("src",.str x),("pos",.int p),("hex_len",.int 4)],ph,B⟩) ?_ (aw.cons rfl .nil);refine XJ.cons (SJ.assign (v:=.str ⟨#[a,b,c,d]⟩) K (.inl (D.kind rfl)) (H.at_▸EJ.qR (a:=p) (b:=p+4) (EJ.loc rfl (D.kind rfl) K) (PJ.some (EJ.loc rfl (D.kind rfl) K)) (PJ.some (EJ.bin (EJ.loc rfl (D.kind rfl) K) (EJ.loc rfl (D.kind rfl) K) BJ.add_int)) J (dW ..) H.le)) ?_;refine XJ.cons (al:=⟨[("hex_str",.str ⟨#[a,b,c,d]⟩),("src",.str x),("pos",.int p),("hex_len",.int 4)],ph,B⟩) (SJ.iff (al:=⟨[("hex_str",.str ⟨#[a,b,c,d]⟩),("src",.str x),("pos",.int p),("hex_len",.int 4)],ph,B⟩) (b:=false) (TJ.m5 (al:=⟨[("hex_str",.str ⟨#[a,b,c,d]⟩),("src",.str x),("pos",.int p),("hex_len",.int 4)],ph,B⟩) ?_ (TJ.m5 ?_ TJ.or_nil)) XJ.nil) ?_
 .exact TJ.li (EJ.bY (EJ.builtin G K (λ _ _=>.blt _) (D.kind rfl)) (am.cons (EJ.loc rfl (D.kind rfl) K) am.nil) (ds.len_str (show 4<2 ^ 62 by decide))) (EJ.loc rfl (D.kind rfl) K) CJ.ne_int
 .refine TJ.not (b:=true) (TJ.val (EJ.io (v:=.obj G.hex) (EJ.glob G.T K (D.kind rfl) G.qd (λ _ _ _=>.obj _)) (on.issuperset G.kj G.kT) (am.cons (EJ.loc rfl (D.kind rfl) K) am.nil) (ds.issuperset R.handled G.kj G.kT)) ?_);have:(([a,b,c,d]:List Nat).all λ c=>fg (wP c))=true:=by simp[m1 M,m1 H.hb,m1 H.hc,m1 H.hd]
  show VT _ _ _ _ _ (.bool (([a,b,c,d]:List Nat).all _)) _ _;rw[this];exact VT.bool
 refine XJ.cons (SJ.oo K (D.kind rfl) rfl (EJ.loc rfl (D.kind rfl) K)) ?_;refine XJ.cons (SJ.assign K (.inl (D.kind rfl)) (EJ.fk (EJ.builtin G K (λ _ _=>.typ _) (D.kind rfl)) (am.cons (EJ.loc rfl (D.kind rfl) K) (am.cons EJ.ci am.nil)) (ds.Ee H.ha H.hb H.hc H.hd))) ?_;refine XJ.cons (SJ.iff (b:=false) (TJ.not (b:=true) (TJ.val (EJ.bq (EJ.top G K 19 rfl (D.kind rfl)) Ok At (am.cons (EJ.loc rfl (D.kind rfl) K) am.nil) (PB G N) R C.cw) VT.bool)) XJ.nil) ?_;have:=W6 H;exact XJ.ret (SJ.ret (EJ.tuple (am.cons (EJ.loc rfl (D.kind rfl) K) (am.cons (EJ.bY (EJ.builtin G K (λ _ _=>.blt _) (D.kind rfl)) (am.cons (EJ.loc rfl (D.kind rfl) K) am.nil) (ds.chr (i:=(c6 a b c d:Nat)) (je _) (by lia))) am.nil)) (by simp[ak])))
end
noncomputable def TW:List Str:=["a","b c","#d","e\"f",""]
noncomputable def AV:List Int:=[32768,16384,40960,49152]
noncomputable def wj (n:Int):Int:=AV.getD (n.fmod 4).toNat 0+(n.fdiv 4).fmod 4096
noncomputable def oJ (n:Int)(j:Nat):Bool:=((n.fdiv 16384).fdiv (2 ^ j)).fmod 2==1
noncomputable def kN (n:Int):List Str:=((bj 5).map λ j=>if oJ n j then some (TW.getD j default) else none).filterMap id
noncomputable def Ef (n:Int)(k:Nat):PV:=.lst [.int (wj n),.str (TW.getD k default),.lst ((kN n).map .str)]
noncomputable def gM (ns:List Int)(m:Nat):List PV:=(bj m).map λ k=>Ef (ns.getD k 0) k
theorem Sq (n:Int):((bj 5).filter (oJ n)).map (λ j=>PV.str (TW.getD j default))=(kN n).map .str:=by
 rw[<-GO];unfold kN;rw[List.map_filterMap,List.filterMap_map,List.filterMap_map]
 congr 1
 funext j
 show(if oJ n j then some (PV.str (TW.getD j default)) else none)=Option.map PV.str (if oJ n j then some (TW.getD j default) else none);cases oJ n j<;>rfl
theorem fe {n:Nat}:∀{xs:List Str},PV.TD n (xs.map .str):=by
 intro B
 induction B with
 |nil=>
  exact trivial
 |cons x xs C=>
  exact And.intro trivial C
section
variable {f:Addr}{fd:aU}
theorem Ep (n:Int):0<=n.fmod 4/\n.fmod 4<4:=⟨lX _ (by decide),nK _ (by decide)⟩
noncomputable def z0 (ns:List Int)(k:Nat):List (Str×PV):=[("records",.lst (gM ns k)),("names",.lst (TW.map .str)),("numbers",.lst (ns.map .int))]
theorem Zh {α:Type}{l:List α}{i:Nat}(d:α)(h:i<l.length):l[i]? = some (l.getD i d):=by
 rw[rL,dc h];rfl
theorem qW {α B:Type}{l:List α}{i:Nat}(f:α->B)(d:α)(h:i<l.length):(l.map f)[i]? = some (f (l.getD i d)):=by
 rw[cM,Zh d h];rfl
theorem Hr {a:Int}{n m:Nat}(h:n<m)(B:∀k,k<m->(a ^ k).natAbs.log2<9000):(a ^ n).natAbs.log2<9000:=B n h
theorem O9 {ns:List Int}(G:Top1 w V mg mb)(Q:ns.length=3):
  nb pp w V 1 (G.fn 50) [.lst (ns.map .int)] [] ph ph (.lst (gM ns 3)):=by
 have D:=G.d 50;refine nb.of_body (loc:=[("numbers",.lst (ns.map .int))]) (fl:=.ret (.lst (gM ns 3))) (ln:=z0 ns 3) G.T D.fn (re.p1 λ u=>D.binds λ _=>rfl) ⟨by show(["numbers"]:List Str).Nodup;decide,λ L x E=>by
  rw[D.scope,aO.mp E];exact .inr ⟨rfl,rfl⟩⟩ ?_
 intro A L O R C;rw[D.gz] at C ⊢;have K:=D.hK (L:=L);generalize At:G.fd 50=fd at K C ⊢;generalize jX:G.fn 50=f at K C ⊢;have I:az (callEnvC (gt fd (sA 50)) L f) "names":=.inr ⟨rfl,rfl,rfl⟩;have T:az (callEnvC (gt fd (sA 50)) L f) "records":=.inl rfl;have Y:az (callEnvC (gt fd (sA 50)) L f) "k":=.inr ⟨rfl,rfl,rfl⟩;have m:az (callEnvC (gt fd (sA 50)) L f) "octal":=.inl rfl;refine XJ.cons (al:=⟨z0 ns 0,ph,O⟩) (SJ.assign_tuple (EJ.tuple (am.cons (EJ.list (am.cons EJ.cs (am.cons EJ.cs (am.cons EJ.cs (am.cons EJ.cs (am.cons EJ.cs am.nil))))) small) (am.cons (EJ.list am.nil small) am.nil)) small)
  (AJ.kE R.handled (.cons (AJ.name K I) (.cons (AJ.name K T) .nil rfl) rfl))) ?_
 refine XJ.cons (SJ.for R.handled (EJ.fk (EJ.builtin G K (λ _ _=>.typ _) rfl) (am.cons EJ.ci am.nil) ds.ko) (rc.eh (by decide) (by decide) (by decide)) (FJ.range 3 (λ i=>⟨z0 ns i,ph,O⟩) (λ i N=>⟨trivial,_,AJ.name K Y,?_⟩) trivial XJ.nil)) (XJ.ret (SJ.ret (EJ.loc rfl rfl K)));have BN:i<2 ^ 62:=Nat.lt_trans N (by decide);have yA:=qW PV.int 0 (Q▸N);have YY:=qW PV.str default (show i<TW.length by show i<5;omega);generalize yH:ns.getD i 0=n at yA;have M:=Ep n;have Sy:=qW PV.int 0 (l:=AV) (i:=(n.fmod 4).toNat) ((Int.toNat_lt M.1).mpr M.2);have J:∀{st:PS}{U c Z},st.loc.lookup ("numbers" : Str)=some (.lst (ns.map .int))->st.loc.lookup ("k" : Str)=some (.int i)->EJ pp w V A (callEnvC (gt fd (sA 50)) L f) (.Subscript (.Name "numbers" U) (.Name "k" c) Z) st st (.int n):=
  λ e1 e2=>EJ.sub (EJ.cell e1 rfl rfl K) (EJ.cell e2 rfl rfl K) (GJ.iQ yA BN)
 refine XJ.sw (XJ.cons (SJ.assign K m (EJ.bin (EJ.sub (EJ.list (am.cons (EJ.int_ G K rfl) (am.cons (EJ.int_ G K rfl) (am.cons (EJ.int_ G K rfl) (am.cons (EJ.int_ G K rfl) am.nil)))) small) (EJ.bin (J rfl rfl) EJ.ci (BJ.mod_int (by decide))) (GJ.lst M.1 (Int.lt_trans M.2 (by decide)) Sy))
  (EJ.bin (EJ.bin (J rfl rfl) EJ.ci (BJ.floordiv_int (by decide) (by decide))) EJ.ci (BJ.mod_int (by decide))) BJ.add_int)) (XJ.cons (SJ.assign K T (EJ.bin (EJ.loc rfl rfl K) (EJ.list (am.cons (EJ.list (am.cons (EJ.loc rfl rfl K) (am.cons (EJ.sub (EJ.cell rfl rfl rfl K) (EJ.cell rfl rfl rfl K) (GJ.iQ YY BN)) (am.cons (EJ.listcomp (cl:=[("numbers",L+1),("names",L+1+1),("k",L+1+1+1)]) (ys:=(kN n).map .str) (ge:=[("names",.lst (TW.map .str)),("numbers",.lst (ns.map .int)),("k",.int i)]) (ln:=[("names",.lst (TW.map .str)),("numbers",.lst (ns.map .int)),("k",.int i)]) R.handled (P3.of rfl rfl rfl rfl (.cons rfl (.cons rfl (.cons rfl .nil))) (.cons ⟨rfl,.inl rfl,(.inl rfl)⟩ (.cons ⟨rfl,.inl rfl,(.inl rfl)⟩ (.cons ⟨rfl,.inl rfl,(.inl rfl)⟩ .nil)))) (EJ.fk (EJ.builtin G K (λ _ _=>.typ _) rfl) (am.cons EJ.ci am.nil) ds.ko) (rc.eh (by decide) (by decide) (by decide)) ?_ fe) am.nil))) small) am.nil) small) (BJ.eg ?_))) XJ.nil)) ?_
 .intro g d o;show wf _ _ _ _ _ _ _ _ _ (jc 0 5) _ _;rw[<-Sq,yZ];refine wf.rows (oJ n) (λ _=>trivial) small λ j B=>?_
  have B:=ke.mp B;have H:=K.comp (scope:={kind:=e8,names:=[(".0",NameKind.local),("j",NameKind.local),("k",dN),("names",dN),("numbers",dN)],isGenerator:=false,isCoroutine:=false}) (cl:=[("numbers",L+1),("names",L+1+1),("k",L+1+1+1)]) (C:=g) rfl;exact Fr.qU H (.inl rfl) (aw.cons rfl (aw.cons rfl (aw.cons rfl .nil))) λ k=>⟨TJ.li (EJ.bin (EJ.bin (EJ.bin (EJ.sub (EJ.cell rfl rfl rfl H) (EJ.cell rfl rfl rfl H) (GJ.iQ yA BN)) EJ.ci (BJ.floordiv_int (by decide) (by decide))) (EJ.bin EJ.ci (EJ.loc rfl rfl H) (BJ.pow_int (je j) (Int.le_trans (Int.mul_le_mul_of_nonneg_left (Int.ofNat_le.mpr (dq B)) (by decide)) (by decide)))) (BJ.floordiv_int (Int.pow_ne_zero (by decide)) (Hr B (by decide)))) EJ.ci (BJ.mod_int (by decide))) EJ.ci CJ.eq_int,
   EJ.sub (EJ.cell rfl rfl rfl H) (EJ.loc rfl rfl H) (GJ.iQ (qW PV.str default (show j<TW.length from B)) (Nat.lt_trans B (by decide)))⟩
 .show(gM ns i).length+1<=_;have:(gM ns i).length=i:=by unfold gM;rw[aE,List.length_range]
  rw[this];exact small (av N (by decide))
 .have e:gM ns (i+1)=gM ns i++[Ef n i]:=by
   unfold gM;rw[List.range_succ,aY,aL,List.map_nil,yH]
  show aw [("records",PV.lst (gM ns (i+1))),_,_] _;rw[e];exact aw.cons rfl (aw.cons rfl (aw.cons rfl .nil))
end
noncomputable def fm:List Nat:=[48,49,50,51,52,53,54,55,56,57,97,98,99,100,101,102]
noncomputable def i8:List Nat:=[48,49,50,51,52,53,54,55,56,57,65,66,67,68,69,70]
noncomputable def ST (o:Int)(j:Nat):Nat:=((o.fdiv (16 ^ (3 - j))).fmod 16).toNat
noncomputable def kK (o:Int):Str:=⟨#[fm.getD (ST o 0) 0,fm.getD (ST o 1) 0,fm.getD (ST o 2) 0,fm.getD (ST o 3) 0]⟩
noncomputable def w6 (o:Int):Str:=⟨#[i8.getD (ST o 0) 0,i8.getD (ST o 1) 0,i8.getD (ST o 2) 0,i8.getD (ST o 3) 0]⟩
theorem Mf:∀i,i<16->Unicode.upperOf (fm.getD i 0)=[i8.getD i 0]:=by decide +kernel
theorem bF (o:Int)(j:Nat):ST o j<16:=by
 unfold ST;exact(Int.toNat_lt (lX _ (by decide))).mpr (nK _ (by decide))
theorem E1 (o:Int):Txt.upper (kK o)=w6 o:=by
 unfold Txt.upper kK w6 placed;have h:=λ j=>Mf (ST o j) (bF o j)
 congr 1
 apply Array.ext';simp only[rL] at h
 simp[h]
noncomputable def oY (x:Str):Str:=("'" : Str)++x++("'" : Str)
noncomputable def te:List Str:=[" ","\n","\t "," # it's\n","\n\n"]
noncomputable def nP (x:Int)(k:Nat):Str:=te.getD ((x.fdiv 524288+k).fmod 5).toNat default
noncomputable def fC (o:Int)(name:Str)(kt:List Str)(great:Bool):List Str:=(if great then w6 o else kK o)::(name::kt).map oY
noncomputable def iu (x:Int)(ws:List Str):Nat->Str
 |0=>""
 |m+1=>iu x ws m++ws.getD m default++nP x m
theorem iy (x y:Str):(x++y).length=x.length+y.length:=Array.size_append
theorem HD {α:Type}{l:List α}{d:α}{P:α->Prop}(h:∀x∈l,P x)(B:P d)(i:Nat):P (l.getD i d):=by
 rw[rL]
 cases e:l[i]? with
 |none=>exact B
 |some x=>exact h x (eX e)
theorem JD (x:Int)(k:Nat):(nP x k).length<=8:=HD (P:=λ y:Str=>y.length<=8) (by decide) (by decide) _
theorem J6 {x:Int}{B:List Str}(G:∀k,(B.getD k default).length<=100):∀m,(iu x B m).length<=108 * m:=by
 intro C
 induction C with
 |zero=>
  exact eJ _
 |succ m D=>
  show(iu x B m++B.getD m default++nP x m).length<=_;rw[iy,iy,Nat.add_assoc];exact Nat.add_le_add (D) (Nat.add_le_add (G m) (JD x m))
section
variable {f:Addr}{fd:aU}
theorem NJ {i:Nat}(h:i<16):Txt.charAt ("0123456789abcdef" : Str) (i:Int)=some (fm.getD i 0):=by
 refine ir ?_;have:∀i,i<16->(("0123456789abcdef" : Str).cps)[i]? = some (fm.getD i 0):=by decide +kernel
 exact this i h
theorem RN (y:Str):(oY y).length=y.length+2:=by unfold oY;rw[iy,iy,(iG ("'" : Str).length)];rfl
theorem Ea {o:Int}{name:Str}{kt:List Str}{great:Bool}(pV:∀y∈name::kt,y.length<=20)(k:Nat):((fC o name kt great).getD k default).length<=100:=by
 refine HD (P:=λ y:Str=>y.length<=100) (λ y B=>?_) (by decide) k
 rcases aG.mp B with rfl|B
 .cases great<;>exact(by decide:4<=100)
 .obtain⟨z,C,rfl⟩:=aI.mp B;rw[RN];exact av (lU (pV z C) 2) (by decide)
theorem Vh (o:Int){j:Nat}(B:j<4):(3 - (j:Int)).toNat=3 - j/\(((o.fdiv ((16:Int) ^ (3 - j))).fmod 16):Int)=(ST o j:Nat):=by
 refine⟨(by decide:∀j:Nat,j<4->(3 - (j:Int)).toNat=3 - j) j B,?_⟩;unfold ST;exact(Int.toNat_of_nonneg (lX _ (by decide))).symm
theorem NX {x o:Int}{name:Str}{kt:List Str}{great:Bool}(G:Top1 w V mg mb)(qy:name.length<=20)(QG:∀y∈kt,y.length<=20)(B:kt.length<=20):
  nb pp w V 1 (G.fn 51) [.int x,.lst [.int o,.str name,.lst (kt.map .str)],.bool great] [] ph ph (.str (iu x (fC o name kt great) (fC o name kt great).length)):=by
 have D:=G.d 51;refine nb.of_body (loc:=[("x",.int x),("record",.lst [.int o,.str name,.lst (kt.map .str)]),("great",.bool great)]) (fl:=.ret (.str (iu x (fC o name kt great) (fC o name kt great).length)))
  (ln:=[("x",.int x)]) G.T D.fn (re.p3 λ u v t=>D.binds λ _=>rfl) (D.locs ["x","record","great"] (by decide) rfl) ?_
 intro A L H R C;rw[D.gz] at C ⊢;have K:=D.hK (L:=L);generalize At:G.fd 51=fd at K C ⊢;generalize jX:G.fn 51=f at K C ⊢;have sO:az (callEnvC (gt fd (sA 51)) L f) "octal":=.inr ⟨rfl,rfl,rfl⟩;have q:az (callEnvC (gt fd (sA 51)) L f) "name":=.inl rfl;have z:az (callEnvC (gt fd (sA 51)) L f) "needs":=.inl rfl;have k:az (callEnvC (gt fd (sA 51)) L f) "figures":=.inl rfl;have p:az (callEnvC (gt fd (sA 51)) L f) "words":=.inl rfl;have Q:az (callEnvC (gt fd (sA 51)) L f) "text":=.inl rfl;have m:az (callEnvC (gt fd (sA 51)) L f) "k":=.inl rfl;refine XJ.cons (al:=⟨[("octal",.int o),("name",.str name),("needs",.lst (kt.map .str)),("x",.int x),("great",.bool great)],ph,H⟩) (SJ.sw (SJ.assign_tuple (EJ.loc rfl rfl K) (AJ.pM R.handled (.cons (AJ.name K sO) (.cons (AJ.name K q) (.cons (AJ.name K z) .nil rfl) rfl) rfl))) (aw.cons rfl (aw.cons rfl (aw.cons rfl (aw.cons rfl (aw.cons rfl .nil)))))) ?_;refine XJ.cons (al:=⟨[("figures",.str (kK o)),("name",.str name),("needs",.lst (kt.map .str)),("x",.int x),("great",.bool great)],ph,H⟩) ?_ ?_
 .refine SJ.sw (SJ.assign (v:=.str (d9 ⟨#[]⟩ ((bj 4).map λ j=>wP (fm.getD (ST o j) 0)))) K k (EJ.io (v:=.str ⟨#[]⟩) EJ.cs on.join (am.cons (EJ.listcomp (ys:=((bj 4).map λ j=>wP (fm.getD (ST o j) 0)).map .str) (cl:=[("octal",L+1)]) (ge:=[("octal",.int o)]) (ln:=[("octal",.int o)]) R.handled (P3.of rfl rfl rfl rfl (.cons rfl .nil) (.cons ⟨rfl,.inl rfl,.inl rfl⟩ .nil)) (EJ.fk (EJ.builtin G K (λ _ _=>.typ _) rfl) (am.cons EJ.ci am.nil) ds.ko) (rc.eh (by decide) (by decide) (by decide)) ?_ fe) am.nil) (ds.Ho rfl rfl ?_))) (aw.cons rfl (aw.cons rfl (aw.cons rfl (aw.cons rfl (aw.cons rfl .nil)))))
  .intro O d r;show wf _ _ _ _ _ _ _ _ _ (jc 0 4) _ _;rw[bz,yZ];refine wf.all (λ _=>trivial) small λ j N=>?_
   have N:=ke.mp N;have J:=K.comp (scope:={kind:=e8,names:=[(".0",NameKind.local),("k",NameKind.local),("octal",dN)],isGenerator:=false,isCoroutine:=false}) (cl:=[("octal",L+1)]) (C:=O) rfl;obtain⟨Z,w8⟩:x02:=Vh o N;have T:=fU (Nat.lt_trans (bF o j) (by decide));have E:=NJ (bF o j);rw[<-w8,<-Z] at T E;have hs:=Z▸Nat.lt_succ_of_le (Nat.sub_le 3 j);exact Fr.nS J (.inl rfl) (aw.cons rfl .nil) λ I=>EJ.sub EJ.cs (EJ.bin (EJ.bin (EJ.cell rfl rfl rfl J) (EJ.bin EJ.ci (EJ.bin EJ.ci (EJ.loc rfl rfl J) BJ.sub_int) (BJ.pow_int (Int.sub_nonneg_of_le (Int.ofNat_le.mpr (Nat.le_of_lt_succ N))) (Int.le_trans (Int.mul_le_mul_of_nonneg_left (Int.sub_le_self 3 (je j)) (by decide)) (by decide)))) (BJ.floordiv_int (Int.pow_ne_zero (by decide)) (Hr hs (by decide)))) EJ.ci (BJ.mod_int (by decide))) (GJ.str T E)
  .exact small (show 4<=1000 by decide)
 have pV:∀y∈name::kt,y.length<=20:=λ y M=>(aG.mp M).elim (λ e=>e▸qy) (QG y)
 have tf:=Ea (o:=o) (great:=great) pV;have zZ:(fC o name kt great).length<=22:=by
  show((name::kt).map oY).length+1<=22;rw[aE];exact lU (lU B 1) 1
 have Ig:(fC o name kt great).map PV.str=[.str (if great then w6 o else kK o)]++((name::kt).map oY).map .str:=rfl;generalize fC o name kt great=ws at tf zZ Ig ⊢;have Xq:rE (Txt.upper (kK o)).length=false:=by rw[E1];rfl
 refine XJ.cons (al:=⟨[("text",.str (iu x ws 0)),("words",.lst (ws.map .str)),("x",.int x)],ph,H⟩) (SJ.sw (al:=⟨("words",.lst (ws.map .str))::("text",.str "")::[("figures",.str (kK o)),("name",.str name),("needs",.lst (kt.map .str)),("x",.int x),("great",.bool great)],ph,H⟩) ?_ (aw.cons rfl (aw.cons rfl (aw.cons rfl .nil)))) ?_
 .refine SJ.mT (vs:=[.lst (ws.map .str),.str ""]) (al:=⟨[("figures",.str (kK o)),("name",.str name),("needs",.lst (kt.map .str)),("x",.int x),("great",.bool great)],ph,H⟩) ["words","text"] K R.handled ?_ rfl rfl (λ y M=>(aG.mp M).elim (λ e=>e▸p) λ e=>aO.mp e▸Q) rfl rfl;rw[Ig];refine EJ.tuple (am.cons (al:=⟨[("figures",.str (kK o)),("name",.str name),("needs",.lst (kt.map .str)),("x",.int x),("great",.bool great)],ph,H⟩) ?_ (am.cons EJ.cs am.nil)) small;have W1:(kt.map PV.str).length<=20:=by rw[aE];exact B
  refine EJ.bin (EJ.list (am.cons (EJ.fq (b:=great) (TJ.val (EJ.loc rfl rfl K) VT.bool) ?_) am.nil) small) (EJ.listcomp (cl:=[]) (ge:=[]) (ln:=[]) R.handled (P3.of rfl rfl rfl rfl .nil .nil) (EJ.bin (EJ.list (am.cons (EJ.loc rfl rfl K) am.nil) small) (EJ.loc rfl rfl K) (BJ.eg (small (av (nj W1 1) (by decide))))) rc.lst ?_ fe) (BJ.eg (small ?_))
  .cases great
   .exact EJ.loc rfl rfl K
   .rw[if_pos rfl,if_pos rfl,<-E1];exact EJ.io (EJ.loc rfl rfl K) on.upper am.nil (ds.upper Xq)
  .intro O d r;show wf _ _ _ _ _ _ _ _ _ ((name::kt).map PV.str) _ _;rw[bz];refine wf.all (λ _=>trivial) (small (av (lU B 1) (by decide))) λ y M=>?_
   have wD:=pV y M;have J:=K.comp (scope:={kind:=e8,names:=[(".0",NameKind.local),("one",NameKind.local)],isGenerator:=false,isCoroutine:=false}) (cl:=[]) (C:=O) rfl;exact Fr.nS J (.inl rfl) aw.nil λ I=>EJ.bin (EJ.bin EJ.cs (EJ.loc rfl rfl J) (BJ.add_str (small (av (nj wD 1) (by decide))))) EJ.cs (BJ.add_str (small (by rw[iy];exact av (lU (nj wD 1) 1) (by decide))))
  .rw[aE,aE];exact av (nj (lU B 1) 1) (by decide)
 have DV:(ws.map PV.str).length<2 ^ 62:=by rw[aE];exact c7 zZ (by decide)
 have eO:(ws.map PV.str).length=ws.length:=aE _;refine XJ.sw (al:=⟨[("text",.str (iu x ws ws.length)),("words",.lst (ws.map .str)),("x",.int x)],ph,H⟩) (XJ.cons (SJ.for R.handled (EJ.fk (EJ.builtin G K (λ _ _=>.typ _) rfl) (am.cons (EJ.bY (EJ.builtin G K (λ _ _=>.blt _) rfl) (am.cons (EJ.loc rfl rfl K) am.nil) (ds.sJ DV)) am.nil) ds.ko) (rc.eh (by decide) (Int.ofNat_lt.mpr DV) (je _)) ?_) (XJ.ret (SJ.ret (EJ.loc rfl rfl K)))) (aw.cons rfl .nil);rw[Int.sub_zero,gh,eO];refine FJ.range ws.length (λ i=>⟨[("text",.str (iu x ws i)),("words",.lst (ws.map .str)),("x",.int x)],ph,H⟩) (λ i c=>⟨trivial,_,AJ.name K m,?_⟩) trivial XJ.nil;have g:=nK (x.fdiv 524288+i) (b:=5) (by decide);have Y:=lX (x.fdiv 524288+i) (b:=5) (by decide);have Bw:=av (dq c) zZ;have X:=av (J6 (x:=x) tf i) (Nat.mul_le_mul_left 108 Bw);have U:=Nat.add_le_add X (tf i);exact XJ.sw (XJ.cons (SJ.assign K Q (EJ.bin (EJ.bin (EJ.loc rfl rfl K) (EJ.sub (EJ.loc rfl rfl K) (EJ.loc rfl rfl K) (GJ.iQ (qW PV.str default c) (c7 Bw (by decide)))) (BJ.add_str (by rw[ak];exact av U (by decide)))) (EJ.sub (EJ.list (am.cons EJ.cs (am.cons EJ.cs (am.cons EJ.cs (am.cons EJ.cs (am.cons EJ.cs am.nil))))) small) (EJ.bin (EJ.bin (EJ.bin (EJ.loc rfl rfl K) EJ.ci (BJ.floordiv_int (by decide) (by decide))) (EJ.loc rfl rfl K) BJ.add_int) EJ.ci (BJ.mod_int (by decide))) (GJ.lst Y (Int.lt_trans g (by decide)) (qW PV.str default (l:=te) ((Int.toNat_lt Y).mpr g)))) (BJ.add_str (by rw[ak,iy];exact av (Nat.add_le_add U (JD x i)) (by decide))))) XJ.nil) (aw.cons rfl (aw.cons rfl (aw.cons rfl .nil)))
end
noncomputable def bN (s:aC):List aC:=dh s 0
noncomputable def WP (i:Nat):aC:=(bN (sA 25)).getD i default
noncomputable def JW:aC:=(bN (sA 23)).getD 1 default
section
variable {d:aC}{f:Addr}{fd:aU}
theorem re.VJ (h:∀u v,bindArgs fd ⟨[u,v],[]⟩=(do let t <-newTuple [v];aq [(x,u),(z,t)])):re pg w V fd [a,b] [] [(x,a),(z,.tup [b])]:=λ A G st I H s Q E J B R k jp bU q=>by
 obtain⟨u,v,rfl,C,D⟩:=gq jp;obtain rfl:B=[]:=by simpa using (congrArg List.length bU.1).symm
 rw[h];refine aa (wpAny_newTuple (ah ?_));exact q _ _ _ _ k.inv.Fa (.refl _) (k.put rfl) rfl ⟨rfl,.cons (C.mono k.inv.Fa (.refl _)) (.cons (.tup (Im.XV ..) (.cons (D.mono k.inv.Fa (.refl _)) .nil)) .nil)⟩
theorem re.NT (h:∀u v,bindArgs fd ⟨[u,v],[]⟩=(do let t <-newTuple [];aq [(x,u),(y,v),(z,t)])):re pg w V fd [a,b] [] [(x,a),(y,b),(z,.tup [])]:=λ A G st I H s Q E J B R k jp bU q=>by
 obtain⟨u,v,rfl,C,D⟩:=gq jp;obtain rfl:B=[]:=by simpa using (congrArg List.length bU.1).symm
 rw[h];refine aa (wpAny_newTuple (ah ?_));exact q _ _ _ _ k.inv.Fa (.refl _) (k.put rfl) rfl ⟨rfl,.cons (C.mono k.inv.Fa (.refl _)) (.cons (D.mono k.inv.Fa (.refl _)) (.cons (.tup (Im.XV ..) .nil) .nil))⟩
theorem re.UR (h:∀u v t,bindArgs fd ⟨[u,v,t],[]⟩=(do let t <-newTuple [t];aq [(x,u),(y,v),(z,t)])):re pg w V fd [a,b,c] [] [(x,a),(y,b),(z,.tup [c])]:=λ A H st I J s Q E L B R k jp bU q=>by
 obtain⟨u,v,t,rfl,D,G,C⟩:=t5 jp;obtain rfl:B=[]:=by simpa using (congrArg List.length bU.1).symm
 rw[h];refine aa (wpAny_newTuple (ah ?_));exact q _ _ _ _ k.inv.Fa (.refl _) (k.put rfl) rfl ⟨rfl,.cons (D.mono k.inv.Fa (.refl _)) (.cons (G.mono k.inv.Fa (.refl _)) (.cons (.tup (Im.XV ..) (.cons (C.mono k.inv.Fa (.refl _)) .nil)) .nil))⟩
theorem Ps.zd {B:Args}(D:Ps V d f fd)(h:∀fd:aU,fd.params=iO d->fd.defaults = .none->fd.kwdefaults = .none->bindArgs fd B=r):bindArgs fd B=r:=h fd D.params D.dflt D.oU
structure GD (V:Im)(d:aC)(f:Addr)(fd:aU):Prop where
 fn:fo V f fd (ay d)
 params:fd.params=iO d
 scope:fd.scope=ax d
 dflt:∃T n,fd.defaults = .ref T/\V T=some {cls:=.type "tuple",data:=.seq #[.none] n}
 oU:fd.kwdefaults = .none
structure Top2 (w:aA)(V:Im)(mg mb:Str->Option Value) extends Top1 w V mg mb where
 K:Frag
 Rs:lp V K
 TS:Addr
 NI:Addr
 CE:Addr
 FU:mg "TopologicalSorter"=some (.ref TS)
 HA:mg "_NodeInfo"=some (.ref NI)
 wV:gX V mg "CycleError" CE
 jP:kI K TS
 dp:kI K NI
 kB:(clsIn K TS).any (·.hasDict)=true
 io:Nat->Addr
 un:Nat->aU
 meths:∀i∈[1,2,3,4,5,7,8],Ps V (WP i) (io i) (un i)/\findIn K (.ref TS) (kz (WP i))=some (some (.ref (io i)))/\typeIn K (.ref (io i))=some (.type "function")
 Eg:GD V (WP 0) (io 0) (un 0)
 Fj:tY K TS (io 0)
 xh:Addr
 Jd:aU
 G8:Ps V JW xh Jd
 GL:tY K NI xh
 iT:∀n∈(["_node2info","_ready_nodes","_npassedout","_nfinished"]:List Str),findIn K (.ref TS) n=some none
 p0:Addr
 p1:Addr
 p2:Addr
 s0:mR K NI "node" p0 0
 s1:mR K NI "npredecessors" p1 1
 s2:mR K NI "successors" p2 2
end
structure Nd where
 name:Str
 np:Int
 succ:List Str
 ix:Nat
 lx:Nat
structure Gr where
 b:Nat
 d:Nat
 nodes:List Nd
 ready:Option (Nat×List Str)
 po:Int
 fi:Int
 base:List PO:=[]
set_option genCtorIdx true in
inductive xO where
 |inst|dict|slot (n:Str)|lst (n:Str)|ready|none
noncomputable def Gr.dS (g:Gr):PV:=match g.ready with | .none=>PV.none | .some x=>.ref x.1
noncomputable def Gr.fields (g:Gr):List (Str×PV):=[("_node2info",.ref g.d),("_ready_nodes",g.dS),("_npassedout",.int g.po),("_nfinished",.int g.fi)]
noncomputable def Gr.tab (g:Gr):List (Str×PV):=g.nodes.map λ n=>(n.name,.ref n.ix)
noncomputable def Nd.slot (NI:Addr)(n:Nd):PO:=.slots NI [some (.str n.name),some (.int n.np),some (.ref n.lx)]
noncomputable def Gt (f:Nd->Nd)(nm:Str)(l:List Nd):List Nd:=l.map λ m=>if m.name=nm then f m else m
structure sB (TS NI:Addr)(g:Gr)(ph:List PO):Prop where
 inst:ph[g.b]? = some (.inst TS g.fields)
 dict:ph[g.d]? = some (.dict g.tab (some g.nodes.length))
 node:∀n∈g.nodes,ph[n.ix]? = some (n.slot NI)/\ph[n.lx]? = some (.list (n.succ.map .str))
 ii:∀r l,g.ready=some (r,l)->ph[r]? = some (.list (l.map .str))
 role:∃ro:Nat->xO,(∀i,i<g.base.length->ro i = .none)/\ro g.b = .inst/\ro g.d = .dict/\(∀n∈g.nodes,ro n.ix = .slot n.name/\ro n.lx = .lst n.name)/\∀r l,g.ready=some (r,l)->ro r = .ready
 names:(g.nodes.map (·.name)).Nodup
 low:∀i,i<g.base.length->ph[i]? = g.base[i]?
theorem tC {l:List Nd}(h:(l.map (·.name)).Nodup){m n:Nd}(D:m∈l)(C:n∈l)(e:m.name=n.name):m=n:=by
 induction l with
 |nil=>cases D
 |cons a l H=>
  rw[aL,c8] at h;obtain⟨G,J⟩:x02:=h
  rcases aG.mp D with B|B
  .rcases aG.mp C with q2|q2
   .rw[B,q2]
   .exact absurd (aI.mpr ⟨n,q2,by rw[<-B,e]⟩) G
  .rcases aG.mp C with q2|q2
   .exact absurd (aI.mpr ⟨m,B,by rw[<-q2,e]⟩) G
   .exact H J B q2
section
variable {TS NI:Addr}{g:Gr}{ph:List PO}
theorem rW {f:Nd->Nd}(B:∀n,(f n).name=n.name){nm:Str}{l:List Nd}:(Gt f nm l).map (·.name)=l.map (·.name):=by
 unfold Gt;rw[bz];apply pH;intro m _;show(if m.name=nm then f m else m).name=m.name
 split
 .exact B m
 .rfl
theorem Fl {f:Nd->Nd}{nm:Str}{l:List Nd}:(Gt f nm l).length=l.length:=by unfold Gt;rw[aE]
theorem Hu {f:Nd->Nd}(B:∀n,(f n).name=n.name/\(f n).ix=n.ix){nm:Str}{l:List Nd}:((Gt f nm l).map λ n=>(n.name,PV.ref n.ix))=l.map λ n=>(n.name,PV.ref n.ix):=by
 unfold Gt;rw[bz];apply pH;intro m _;show((if m.name=nm then f m else m).name,PV.ref (if m.name=nm then f m else m).ix)=_
 split
 .rw[(B m).1,(B m).2]
 .rfl
theorem bc {i j:Nat}{o:PO}(h:j≠i):(ph.set i o)[j]? = ph[j]?:=List.getElem?_set_ne (Ne.symm h)
theorem pO {i:Nat}{o o':PO}(h:ph[i]? = some o'):(ph.set i o)[i]? = some o:=j5 (cb.mp h).1
set_option tactic.hygienic true in
theorem sB.tx (S:sB TS NI g ph){n:Nd}(M:n∈g.nodes)(v:Int):
  sB TS NI {g with nodes:=Gt (λ m=>{m with np:=v}) n.name g.nodes} (ph.set n.ix (Nd.slot NI {n with np:=v})):=by
 obtain⟨L,N,T,O,J,Y⟩:x1303:=S.role;have G:∀j,L j≠L n.ix->(ph.set n.ix (Nd.slot NI {n with np:=v}))[j]? = ph[j]?:=λ j h=>bc λ e=>h (by rw[e])
 have H:=(J n M).1;have D:∀C∈Gt (λ m=>{m with np:=v}) n.name g.nodes,∃m∈g.nodes,(m=n/\C={n with np:=v})\/(m.name≠n.name/\C=m):=λ C cQ=>by
  obtain⟨m,B,rfl⟩:=aI.mp cQ;refine⟨m,B,?_⟩
  split
  .rename_i e
   exact .inl ⟨tC S.names B M e,by rw[tC S.names B M e]⟩
  .rename_i e
   exact .inr ⟨e,rfl⟩
 refine⟨?_,?_,λ C cQ=>?_,λ r l e=>?_,⟨L,N,T,O,λ C cQ=>?_,Y⟩,?_,λ i R=>(G i (by rw[N i R,H];exact λ e=>by cases e)).trans (S.low i R)⟩
 .rw[G g.b (by rw[T,H];exact λ e=>by cases e)];exact S.inst
 .rw[G g.d (by rw[O,H];exact λ e=>by cases e)];show _=some (PO.dict ((Gt (λ m=>{m with np:=v}) n.name g.nodes).map λ n=>(n.name,PV.ref n.ix)) (some (Gt (λ m=>{m with np:=v}) n.name g.nodes).length));rw[Fl];rw[Hu (f:=λ m=>{m with np:=v}) (λ n=>⟨rfl,rfl⟩)];exact S.dict
 .obtain⟨m,B,h⟩:=D C cQ
  rcases h with⟨rfl,rfl⟩|⟨U,rfl⟩
  .refine⟨pO (S.node _ B).1,?_⟩;show(ph.set m.ix _)[m.lx]? = _;rw[G m.lx (by rw[(J m B).2,H];exact λ e=>by cases e)];exact(S.node _ B).2
  .rw[G C.ix (by rw[(J C B).1,H];exact λ e=>U (by injection e)),G C.lx (by rw[(J C B).2,H];exact λ e=>by cases e)];exact S.node _ B
 .rw[G r (by rw[Y r l e,H];exact λ e=>by cases e)];exact S.ii r l e
 .obtain⟨m,B,h⟩:=D C cQ
  rcases h with⟨rfl,rfl⟩|⟨U,rfl⟩
  .exact J m B
  .exact J _ B
 .show((Gt (λ m=>{m with np:=v}) n.name g.nodes).map (·.name)).Nodup;rw[rW (f:=λ m=>{m with np:=v}) (λ n=>rfl)];exact S.names
set_option tactic.hygienic true in
theorem sB.QS (S:sB TS NI g ph){n:Nd}(M:n∈g.nodes)(x:Str):
  sB TS NI {g with nodes:=Gt (λ m=>{m with succ:=m.succ++[x]}) n.name g.nodes} (ph.set n.lx (.list ((n.succ++[x]).map .str))):=by
 obtain⟨L,N,T,O,J,Y⟩:x1303:=S.role;have G:∀j,L j≠L n.lx->(ph.set n.lx (.list ((n.succ++[x]).map .str)))[j]? = ph[j]?:=λ j h=>bc λ e=>h (by rw[e])
 have H:=(J n M).2;have D:∀C∈Gt (λ m=>{m with succ:=m.succ++[x]}) n.name g.nodes,∃m∈g.nodes,(m=n/\C={n with succ:=n.succ++[x]})\/(m.name≠n.name/\C=m):=λ C cQ=>by
  obtain⟨m,B,rfl⟩:=aI.mp cQ;refine⟨m,B,?_⟩
  split
  .rename_i e
   exact .inl ⟨tC S.names B M e,by rw[tC S.names B M e]⟩
  .rename_i e
   exact .inr ⟨e,rfl⟩
 refine⟨?_,?_,λ C cQ=>?_,λ r l e=>?_,⟨L,N,T,O,λ C cQ=>?_,Y⟩,?_,λ i R=>(G i (by rw[N i R,H];exact λ e=>by cases e)).trans (S.low i R)⟩
 .rw[G g.b (by rw[T,H];exact λ e=>by cases e)];exact S.inst
 .rw[G g.d (by rw[O,H];exact λ e=>by cases e)];show _=some (PO.dict ((Gt (λ m=>{m with succ:=m.succ++[x]}) n.name g.nodes).map λ n=>(n.name,PV.ref n.ix)) (some (Gt (λ m=>{m with succ:=m.succ++[x]}) n.name g.nodes).length));rw[Fl];rw[Hu (f:=λ m=>{m with succ:=m.succ++[x]}) (λ n=>⟨rfl,rfl⟩)];exact S.dict
 .obtain⟨m,B,h⟩:=D C cQ
  rcases h with⟨rfl,rfl⟩|⟨U,rfl⟩
  .refine⟨?_,pO (S.node _ B).2⟩;show(ph.set m.lx _)[m.ix]? = _;rw[G m.ix (by rw[(J m B).1,H];exact λ e=>by cases e)];exact(S.node _ B).1
  .rw[G C.ix (by rw[(J C B).1,H];exact λ e=>by cases e),G C.lx (by rw[(J C B).2,H];exact λ e=>U (by injection e))];exact S.node _ B
 .rw[G r (by rw[Y r l e,H];exact λ e=>by cases e)];exact S.ii r l e
 .obtain⟨m,B,h⟩:=D C cQ
  rcases h with⟨rfl,rfl⟩|⟨U,rfl⟩
  .exact J m B
  .exact J _ B
 .show((Gt (λ m=>{m with succ:=m.succ++[x]}) n.name g.nodes).map (·.name)).Nodup;rw[rW (f:=λ m=>{m with succ:=m.succ++[x]}) (λ n=>rfl)];exact S.names
theorem sB.E3 (S:sB TS NI g ph)(po fi:Int):sB TS NI {g with po:=po,fi:=fi} (ph.set g.b (.inst TS ({g with po:=po,fi:=fi}:Gr).fields)):=by
 apply bd;intro O;obtain⟨D,J,B,L,H,N⟩:x1303:=S.role;apply O;have C:∀j,D j≠D g.b->(ph.set g.b (.inst TS ({g with po:=po,fi:=fi}:Gr).fields))[j]? = ph[j]?:=λ j h=>bc λ e=>h (by rw[e])
 refine⟨pO S.inst,?_,λ m G=>?_,λ r l e=>?_,⟨D,J,B,L,H,N⟩,S.names,λ i M=>(C i (by rw[J i M,B];exact λ e=>by cases e)).trans (S.low i M)⟩
 .show(ph.set g.b _)[g.d]? = _;rw[C g.d (by rw[L,B];exact λ e=>by cases e)];exact S.dict
 .rw[C m.ix (by rw[(H m G).1,B];exact λ e=>by cases e),C m.lx (by rw[(H m G).2,B];exact λ e=>by cases e)];exact S.node m G
 .rw[C r (by rw[N r l e,B];exact λ e=>by cases e)];exact S.ii r l e
theorem sB.EC (S:sB TS NI g ph){r:Nat}{l:List Str}(G:g.ready=some (r,l))(D:List Str):sB TS NI {g with ready:=some (r,D)} (ph.set r (.list (D.map .str))):=by
 apply bd;intro U;obtain⟨H,M,R,N,L,Y⟩:x1303:=S.role;apply U;have B:=Y r l G;have C:∀j,H j≠H r->(ph.set r (.list (D.map .str)))[j]? = ph[j]?:=λ j h=>bc λ e=>h (by rw[e])
 refine⟨?_,?_,λ m J=>?_,λ T SM e=>?_,⟨H,M,R,N,L,λ T SM e=>?_⟩,S.names,λ i O=>(C i (by rw[M i O,B];exact λ e=>by cases e)).trans (S.low i O)⟩
 .rw[C g.b (by rw[R,B];exact λ e=>by cases e)];have:=S.inst;unfold Gr.fields Gr.dS at this ⊢;rw[G] at this;exact this
 .rw[C g.d (by rw[N,B];exact λ e=>by cases e)];exact S.dict
 .rw[C m.ix (by rw[(L m J).1,B];exact λ e=>by cases e),C m.lx (by rw[(L m J).2,B];exact λ e=>by cases e)];exact S.node m J
 .cases e;exact pO (S.ii r l G)
 .cases e;exact B
theorem sB.keep {bn:List PO}(S:sB TS NI g ph)(h:∀(i:Nat) o,ph[i]? = some o->bn[i]? = some o):sB TS NI g bn:=
 ⟨h _ _ S.inst,h _ _ S.dict,λ n C=>⟨h _ _ (S.node n C).1,h _ _ (S.node n C).2⟩,λ r l e=>h _ _ (S.ii r l e),S.role,S.names,λ i B=>(h _ _ ((S.low i B).trans (dc B))).trans (dc B).symm⟩
theorem il (ph B:List PO):∀(i:Nat) o,ph[i]? = some o->(ph++B)[i]? = some o:=λ i o e=>by
 rw[cm (cb.mp e).1];exact e
theorem sB.lt (S:sB TS NI g ph):g.b<ph.length/\g.d<ph.length/\(∀n∈g.nodes,n.ix<ph.length/\n.lx<ph.length)/\∀r l,g.ready=some (r,l)->r<ph.length:=
 ⟨(cb.mp S.inst).1,(cb.mp S.dict).1,λ n B=>⟨(cb.mp (S.node n B).1).1,(cb.mp (S.node n B).2).1⟩,λ r l e=>(cb.mp (S.ii r l e)).1⟩
theorem sB.vE (S:sB TS NI g ph){i:Nat}(hi:i<g.base.length):i<ph.length:=(cb.mp ((S.low i hi).trans (dc hi))).1
theorem sB.Wa (S:sB TS NI g ph){x:Str}(hx:x∉g.nodes.map (·.name)):
  sB TS NI {g with nodes:=g.nodes++[⟨x,0,[],ph.length,ph.length+1⟩]}
   ((ph++[Nd.slot NI ⟨x,0,[],ph.length,ph.length+1⟩,.list []]).set g.d (.dict (bE g.tab x (.ref ph.length)) (some (g.nodes.length+1)))):=by
 apply bd;intro N;obtain⟨M,J,l3,T⟩:x04:=S.lt;obtain⟨D,U,L,G,O,Y⟩:x1303:=S.role;apply N;have C:∀j,j<ph.length->j≠g.d->((ph++[Nd.slot NI ⟨x,0,[],ph.length,ph.length+1⟩,.list []]).set g.d (.dict (bE g.tab x (.ref ph.length)) (some (g.nodes.length+1))))[j]? = ph[j]?:=λ j I Q=>by
  rw[bc Q,cm I]
 have de:bE g.tab x (.ref ph.length)=g.tab++[(x,.ref ph.length)]:=by
  unfold bE;rw[(if_neg)];intro h;apply bd;intro N;obtain⟨p,E,e⟩:=pB.mp h;obtain⟨n,Z,rfl⟩:=aI.mp E;apply N;exact hx (aI.mpr ⟨n,Z,by simpa using e⟩)
 refine⟨?_,?_,λ m B=>?_,λ r l e=>?_,⟨λ j=>if j=ph.length then .slot x else if j=ph.length+1 then .lst x else D j,λ i H=>?_,?_,?_,λ m B=>?_,λ r l e=>?_⟩,?_,λ i H=>(C i (S.vE H) λ e=>by have:=U i H;rw[e,G] at this;cases this).trans (S.low i H)⟩
 .rw[C g.b M (λ e=>by rw[e,G] at L;cases L)];exact S.inst
 .show(List.set _ g.d _)[g.d]? = _;rw[pO (o':=.dict g.tab (some g.nodes.length)) (by rw[cm J];exact S.dict),de];unfold Gr.tab;rw[aY,aP];rfl
 .rcases be.mp B with B|B
  .rw[C m.ix (l3 m B).1 (λ e=>by have:=(O m B).1;rw[e,G] at this;cases this),C m.lx (l3 m B).2 (λ e=>by have:=(O m B).2;rw[e,G] at this;cases this)];exact S.node m B
  .obtain rfl:=aO.mp B
   constructor
   .rw[bc (by show ph.length≠g.d;exact eF J),fF (aJ _)]
    simp
   .rw[bc (by show ph.length+1≠g.d;exact eF (lS J)),fF (by show ph.length<=ph.length+1;exact dW ..)]
    simp
 .rw[C r (T r l e) (λ V=>by have:=Y r l e;rw[V,G] at this;cases this)];exact S.ii r l e
 .have:=S.vE H;show(if i=ph.length then _ else if i=ph.length+1 then _ else D i)=_;rw[if_neg (aS this),if_neg (aS (lS this))];exact U i H
 .show(if g.b=ph.length then _ else if g.b=ph.length+1 then _ else D g.b)=_;rw[if_neg (aS M),if_neg (aS (lS M))];exact L
 .show(if g.d=ph.length then _ else if g.d=ph.length+1 then _ else D g.d)=_;rw[if_neg (aS J),if_neg (aS (lS J))];exact G
 .rcases be.mp B with B|B
  .have:=l3 m B;show(if m.ix=ph.length then _ else if m.ix=ph.length+1 then _ else D m.ix)=_/\(if m.lx=ph.length then _ else if m.lx=ph.length+1 then _ else D m.lx)=_;rw[if_neg (aS this.1),if_neg (aS (lS this.1)),if_neg (aS this.2),if_neg (aS (lS this.2))];exact O m B
  .obtain rfl:=aO.mp B;show(if ph.length=ph.length then xO.slot x else _)=_/\(if ph.length+1=ph.length then _ else if ph.length+1=ph.length+1 then xO.lst x else _)=_;rw[if_pos rfl,if_neg (oF rfl),if_pos rfl];exact⟨rfl,rfl⟩
 .have:=T r l e;show(if r=ph.length then _ else if r=ph.length+1 then _ else D r)=_;rw[if_neg (aS this),if_neg (aS (lS this))];exact Y r l e
 .rw[aY,(jm)];refine⟨S.names,by simp,λ a A b R e=>?_⟩
  simp at R
  subst R e;exact hx A
theorem JB:∀{l:List Nd}{n:Nd},(l.map (·.name)).Nodup->n∈l->(l.map λ n=>(n.name,PV.ref n.ix)).lookup n.name=some (.ref n.ix):=by
 intro C
 induction C with
 |nil=>
  intro n _ B;cases B
 |cons a l D=>
  intro n h B;rw[aL,c8] at h;rw[aL,cK]
  rcases aG.mp B with q|q
  .subst q;simp
  .have e:(n.name==a.name)=false:=by
    rw[(beq_eq_false_iff_ne)];intro e;exact h.1 (aI.mpr ⟨n,q,e⟩)
   rw[e];exact D h.2 q
theorem Qh:∀{l:List Nd}{x:Str},x∉l.map (·.name)->(l.map λ n=>(n.name,PV.ref n.ix)).lookup x=none:=by
 intro B
 induction B with
 |nil=>
  intro x _;exact rfl
 |cons a l C=>
  intro x h;rw[aL,aG,not_or] at h;rw[aL,cK];have e:(x==a.name)=false:=by rw[(beq_eq_false_iff_ne)];exact h.1
  rw[e];exact C h.2
theorem sB.look (S:sB TS NI g ph){n:Nd}(B:n∈g.nodes):g.tab.lookup n.name=some (.ref n.ix):=JB S.names B
end
theorem SJ.ph (bn:List PO)(h:SJ pg w V A ew ss st al f)(e:al.ph=bn):SJ pg w V A ew ss st ⟨al.loc,bn,al.fs⟩ f:=e▸h
theorem XJ.ph (bn:List PO)(h:XJ pg w V A ew ss st al f)(e:al.ph=bn):XJ pg w V A ew ss st ⟨al.loc,bn,al.fs⟩ f:=e▸h
theorem EJ.ph (bn:List PO)(h:EJ pg w V A ew e st al v)(B:al.ph=bn):EJ pg w V A ew e st ⟨al.loc,bn,al.fs⟩ v:=B▸h
theorem AJ.pre (h:AJ pg w V A ew t v {st with loc:=l} al)(B:aw l st.loc):AJ pg w V A ew t v st al:=λ _ _ _ _ _ _ k C q=>h _ _ _ _ _ _ (k.sw B) C q
theorem FJ.pre (h:FJ pg w V A ew Hd target body orelse xs {st with loc:=l} al f)(B:aw l st.loc):FJ pg w V A ew Hd target body orelse xs st al f:=by
 cases xs with
 |nil=>exact⟨h.1,h.2.pre B⟩
 |cons x xs=>obtain⟨D,a,b,c,G,C⟩:x0232:=h;exact⟨D,a,b,c,G.pre B,C⟩
theorem XJ.mQ {ph}(bn:List PO)(h:XJ pg w V A ew ss st ⟨loc,ph,fs⟩ f)(e:ph=bn):XJ pg w V A ew ss st ⟨loc,bn,fs⟩ f:=e▸h
theorem EJ.mQ {loc ph}(bn:List PO)(h:EJ pg w V A ew e st ⟨loc,ph,fs⟩ v)(B:ph=bn):EJ pg w V A ew e st ⟨loc,bn,fs⟩ v:=B▸h
theorem XJ.drop {ph}(h:XJ pg w V A ew ss st ⟨loc,ph,fs⟩ f):XJ pg w V A ew ss st ⟨[],ph,fs⟩ f:=XJ.sw h aw.nil
theorem EJ.val (B:PV)(h:EJ pg w V A ew e st al v)(C:v=B):EJ pg w V A ew e st al B:=C▸h
theorem Fe {base:List PO}{o o':PO}:(base++[o]).set base.length o'=base++[o']:=by rw[List.set_append_right _ _ (aJ _),Nat.sub_self];rfl
theorem ub {base:List PO}{o o' z:PO}:(base++[o,z]).set base.length o'=base++[o',z]:=by rw[List.set_append_right _ _ (aJ _),Nat.sub_self];rfl
theorem I8 {base:List PO}{o:PO}:(base++[o])[base.length]? = some o:=nB
theorem tG {base:List PO}{o z:PO}:(base++[o,z])[base.length]? = some o:=by rw[fF (aJ _),Nat.sub_self];rfl
theorem Sh {base:List PO}{x:Str}(G:Top2 w V mg mb):
  mD pp w V 1 G.xh [.ref base.length,.str x] [] (base++[.slots G.NI []]) (base++[Nd.slot G.NI ⟨x,0,[],base.length,base.length+1⟩,.list []]) .none:=by
 have D:=G.G8;refine mD.of_body (loc:=[("self",.ref base.length),("node",.str x)]) (fl:=.next) (ln:=[("self",.ref base.length),("node",.str x)]) G.T D.fn (re.p2 λ u v=>D.binds λ _=>rfl) (D.locs ["self","node"] (by decide) rfl) ?_;intro A L B R C;have K:=D.mt (L:=L);refine XJ.cons (SJ.ph (base++[.slots G.NI [some (.str x)]]) (SJ.jO (EJ.loc rfl (D.kind rfl) K) (EJ.loc rfl (D.kind rfl) K) (bZ.slots G.Rs G.dp G.s0 I8)) Fe) ?_;refine XJ.cons (SJ.ph (base++[.slots G.NI [some (.str x),some (.int 0)]]) (SJ.jO EJ.ci (EJ.loc rfl (D.kind rfl) K) (bZ.slots G.Rs G.dp G.s1 I8)) Fe) ?_;refine XJ.cons (SJ.ph (base++[Nd.slot G.NI ⟨x,0,[],base.length,base.length+1⟩,.list []]) (SJ.jO (EJ.val (.ref (base.length+1)) (EJ.ph (base++[.slots G.NI [some (.str x),some (.int 0)],.list []]) (EJ.wX am.nil (by rw[ak];simp)) (by simp)) (by simp)) (EJ.loc rfl (D.kind rfl) K) (bZ.slots G.Rs G.dp G.s2 tG)) ub) XJ.nil
theorem RI {fd:aU}(L:fd.params=iO (WP 0))(D:fd.defaults = .ref T)(J:fd.kwdefaults = .none)(G:V T=some {cls:=.type "tuple",data:=.seq #[.none] n}):
  re pg w V fd [a] [] [("self",a),("graph",.none)]:=λ A N st I O s Q E U M R C jp bU q=>by
 obtain⟨u,rfl,H⟩:=cz jp;obtain rfl:=bU.nil;have e:fd={fd with params:=iO (WP 0),defaults:=.ref T,kwdefaults:=.none}:=by rw[<-L,<-D,<-J]
 rw[e];refine aa (m:=seqItems? (.ref T)) (wpAny_seqItems (C.inv.lw _ _ (C.top _ _ G)) rfl ?_);exact ah (q _ _ _ _ (.refl _) (.refl _) C rfl ⟨rfl,.cons H (.cons .none .nil)⟩)
theorem Yn {base:List PO}(G:Top2 w V mg mb):
  mD pp w V 1 (G.io 0) [.ref base.length] [] (base++[.inst G.TS []]) (base++[.inst G.TS ({b:=base.length,d:=base.length+1,nodes:=[],ready:=none,po:=0,fi:=0}:Gr).fields,.dict [] (some 0)]) .none:=by
 have D:=G.Eg;apply bd;intro U;obtain⟨T,n,M,N⟩:=D.dflt;apply U;have B:∀x k,(ax (WP 0)).names.lookup x=some k->(G.un 0).scope.names.lookup x=some k:=λ x k h=>by rw[D.scope];exact h
 refine mD.of_body (loc:=[("self",.ref base.length),("graph",.none)]) (fl:=.next) (ln:=[("self",.ref base.length),("graph",.none)]) G.T D.fn (RI D.params M D.oU N) ⟨by show(["self","graph"]:List Str).Nodup;decide,λ L x J=>.inl (B x .local (by simp at J;rcases J with rfl|rfl<;>rfl))⟩ ?_;intro A L Y R C;have K:=D.fn.env L;have H:(callEnvC (G.un 0) L (G.io 0)).kindOf "self"=some .local:=B _ _ rfl;have O:(callEnvC (G.un 0) L (G.io 0)).kindOf "graph"=some .local:=B _ _ rfl;refine XJ.cons (SJ.ph (base++[.inst G.TS [("_node2info",.ref (base.length+1))],.dict [] (some 0)]) (SJ.jO (EJ.val (.ref (base.length+1)) (EJ.ph (base++[.inst G.TS [],.dict [] (some 0)]) (EJ.Fg (some 0) (.inr rfl)) (by simp)) (by simp)) (EJ.loc rfl H K) (bZ.inst G.Rs G.jP G.kB tG (G.iT _ (by decide)) (by simp))) ub) ?_;refine XJ.cons (SJ.ph (base++[.inst G.TS [("_node2info",.ref (base.length+1)),("_ready_nodes",.none)],.dict [] (some 0)]) (SJ.jO EJ.const_none (EJ.loc rfl H K) (bZ.inst G.Rs G.jP G.kB tG (G.iT _ (by decide)) (by simp))) ub) ?_;refine XJ.cons (SJ.ph (base++[.inst G.TS [("_node2info",.ref (base.length+1)),("_ready_nodes",.none),("_npassedout",.int 0)],.dict [] (some 0)]) (SJ.jO EJ.ci (EJ.loc rfl H K) (bZ.inst G.Rs G.jP G.kB tG (G.iT _ (by decide)) (by simp))) ub) ?_;refine XJ.cons (SJ.ph (base++[.inst G.TS [("_node2info",.ref (base.length+1)),("_ready_nodes",.none),("_npassedout",.int 0),("_nfinished",.int 0)],.dict [] (some 0)]) (SJ.jO EJ.ci (EJ.loc rfl H K) (bZ.inst G.Rs G.jP G.kB tG (G.iT _ (by decide)) (by simp))) ub) ?_;exact XJ.cons (SJ.iff (b:=false) (TJ.li (EJ.loc rfl O K) EJ.const_none CJ.isNot_none) XJ.nil) XJ.nil
theorem Top2.m (G:Top2 w V mg mb)(i:Nat)(h:i∈[1,2,3,4,5,7,8]:=by decide):Ps V (WP i) (G.io i) (G.un i):=(G.meths i h).1
theorem u8.fld (G:Top2 w V mg mb)(C:st.ph[n]? = some (.inst G.TS (Gr.fields g)))(hx:(Gr.fields g).lookup name=some x)(B:name∈(["_node2info","_ready_nodes","_npassedout","_nfinished"]:List Str):=by decide)(D:∀m,x≠.blt m):u8 pp w V A ew (.ref n) name st x:=
 u8.inst G.Rs G.jP G.kB C hx (G.iT _ B) D
theorem cW.ts (G:Top2 w V mg mb)(i:Nat){name:Str}(qy:kz (WP i)=name)(B:st.ph[n]? = some (.inst G.TS (Gr.fields g)))(C:(Gr.fields g).lookup name=none)(h:i∈[1,2,3,4,5,7,8]:=by decide):cW pp w V A ew (.ref n) st name (G.io i):=
 cW.inst G.Rs G.jP B (qy▸(G.meths i h).2.1) (G.meths i h).2.2 C
theorem OF {ph:List PO}{g:Gr}{n:Nd}(G:Top2 w V mg mb)(S:sB G.TS G.NI g ph)(J:n∈g.nodes):nb pp w V 3 (G.io 1) [.ref g.b,.str n.name] [] ph ph (.ref n.ix):=by
 have D:=G.m 1;refine nb.of_body (loc:=[("self",.ref g.b),("node",.str n.name)]) (fl:=.ret (.ref n.ix)) (ln:=[("self",.ref g.b),("node",.str n.name)]) G.T D.fn (re.p2 λ u v=>D.binds λ _=>rfl) (D.locs ["self","node"] (by decide) rfl) ?_;intro A L B R C;have K:=D.mt (L:=L);have H:(g.tab.lookup n.name).getD .none = .ref n.ix:=by rw[S.look J];rfl
 refine XJ.sw (al:=⟨[("result",.ref n.ix),("self",.ref g.b),("node",.str n.name)],ph,B⟩) (XJ.cons (SJ.iff (b:=false) (TJ.li (EJ.named (EJ.val (.ref n.ix) (EJ.io (EJ.attr (EJ.loc rfl (D.kind rfl) K) (u8.fld G S.inst rfl (by decide) (λ m e=>by cases e))) (on.om G.mods S.dict) (am.cons (EJ.loc rfl (D.kind rfl) K) am.nil) (ds.om G.mods S.dict)) H) (AJ.name K (.inl (D.kind rfl)))) EJ.const_none CJ.is_none) XJ.nil) (XJ.ret (SJ.ret (EJ.loc rfl (D.kind rfl) K)))) (aw.cons rfl (aw.cons rfl .nil))
noncomputable def v5 (NI:Addr)(g:Gr)(ph:List PO)(x:Str):List PO:=(ph++[Nd.slot NI ⟨x,0,[],ph.length,ph.length+1⟩,.list []]).set g.d (.dict (bE g.tab x (.ref ph.length)) (some (g.nodes.length+1)))
noncomputable def Ag (g:Gr)(ph:List PO)(x:Str):Gr:={g with nodes:=g.nodes++[⟨x,0,[],ph.length,ph.length+1⟩]}
theorem OB {ph:List PO}{g:Gr}{x:Str}(G:Top2 w V mg mb)(S:sB G.TS G.NI g ph)(hx:x∉g.nodes.map (·.name))(H:g.nodes.length<100):nb pp w V 3 (G.io 1) [.ref g.b,.str x] [] ph (v5 G.NI g ph x) (.ref ph.length):=by
 have D:=G.m 1;refine nb.of_body (loc:=[("self",.ref g.b),("node",.str x)]) (fl:=.ret (.ref ph.length)) (ln:=[("self",.ref g.b),("node",.str x)]) G.T D.fn (re.p2 λ u v=>D.binds λ _=>rfl) (D.locs ["self","node"] (by decide) rfl) ?_;intro A L M R C;have K:=D.mt (L:=L);have O:(g.tab.lookup x).getD .none = .none:=by rw[show g.tab.lookup x=none from Qh hx];rfl
 have Rw:mr g.tab x (some g.nodes.length)=some (g.nodes.length+1):=by
  unfold mr;rw[Option.map_some,(if_neg)];intro h;obtain⟨p,N,e⟩:=pB.mp h;obtain⟨n,J,rfl⟩:=aI.mp N;exact hx (aI.mpr ⟨n,J,by simpa using e⟩)
 have cH:(ph++[Nd.slot G.NI ⟨x,0,[],ph.length,ph.length+1⟩,.list []])[g.b]? = some (.inst G.TS g.fields):=il _ _ _ _ S.inst;have B:(ph++[Nd.slot G.NI ⟨x,0,[],ph.length,ph.length+1⟩,.list []])[g.d]? = some (.dict g.tab (some g.nodes.length)):=il _ _ _ _ S.dict;refine XJ.sw (al:=⟨[("result",.ref ph.length),("result",.none),("self",.ref g.b),("node",.str x)],v5 G.NI g ph x,M⟩) (XJ.cons (SJ.iff (b:=true) (TJ.li (EJ.named (EJ.val .none (EJ.io (EJ.attr (EJ.loc rfl (D.kind rfl) K) (u8.fld G S.inst rfl (by decide) (λ m e=>by cases e))) (on.om G.mods S.dict) (am.cons (EJ.loc rfl (D.kind rfl) K) am.nil) (ds.om G.mods S.dict)) O) (AJ.name K (.inl (D.kind rfl)))) EJ.const_none CJ.is_none)
  (XJ.mQ _ (XJ.cons (SJ.Qa (EJ.make (.slots G.NI []) (.inr rfl) G.Rs G.GL (EJ.glob G.T K (D.kind rfl) G.HA (λ _ _ _=>.obj _)) (am.cons (EJ.loc rfl (D.kind rfl) K) am.nil) (Sh G) R C.cw)
   (AJ.dict_set G.mods (EJ.attr (EJ.loc rfl (D.kind rfl) K) (u8.fld G cH rfl (by decide) (λ m e=>by cases e))) (EJ.loc rfl (D.kind rfl) K) B (by unfold Gr.tab;rw[aE,ak];exact ia H rfl)) (AJ.name K (.inl (D.kind rfl)))) XJ.nil) (by unfold v5;rw[Rw]))) (XJ.ret (SJ.ret (EJ.loc rfl (D.kind rfl) K)))) (aw.cons rfl (aw.cons rfl .nil))
structure An where
 name:Str
 np:Int
 succ:List Str
noncomputable def Nd.an (n:Nd):An:=⟨n.name,n.np,n.succ⟩
noncomputable def Gr.abs (g:Gr):List An:=g.nodes.map Nd.an
def Gr.ig (g g':Gr):Prop:=g'={g with nodes:=g'.nodes}
noncomputable def eD (x:Str)(l:List An):List An:=if l.any (λ n=>n.name==x) then l else l++[⟨x,0,[]⟩]
noncomputable def cC (x:Str)(f:Int->Int)(l:List An):List An:=l.map λ n=>if n.name=x then {n with np:=f n.np} else n
noncomputable def kC (y x:Str)(l:List An):List An:=l.map λ n=>if n.name=y then {n with succ:=n.succ++[x]} else n
theorem xf {l:List Nd}{n:Nd}(B:n∈l)(D:(l.map (·.name)).Nodup)(f:Int->Int):(Gt (λ m=>{m with np:=f n.np}) n.name l).map Nd.an=cC n.name f (l.map Nd.an):=by
 unfold Gt cC;rw[bz,bz];apply pH;intro m C;show(if m.name=n.name then ({m with np:=f n.np}:Nd) else m).an=if m.an.name=n.name then _ else m.an
 by_cases e:m.name=n.name
 .obtain rfl:=tC D C B e;rw[if_pos rfl,if_pos (show m.an.name=m.name from rfl)];rfl
 .rw[if_neg e,if_neg (show ¬m.an.name=n.name from e)]
theorem Yi {l:List Nd}{y x:Str}:(Gt (λ m=>{m with succ:=m.succ++[x]}) y l).map Nd.an=kC y x (l.map Nd.an):=by
 unfold Gt kC;rw[bz,bz];apply pH;intro m B;show(if m.name=y then ({m with succ:=m.succ++[x]}:Nd) else m).an=if m.an.name=y then _ else m.an
 by_cases e:m.name=y
 .rw[if_pos e,if_pos (show m.an.name=y from e)];rfl
 .rw[if_neg e,if_neg (show ¬m.an.name=y from e)]
theorem yJ {ph:List PO}{g:Gr}{x:Str}(G:Top2 w V mg mb)(S:sB G.TS G.NI g ph)(H:g.nodes.length<100):
  ∃bn D n,nb pp w V 3 (G.io 1) [.ref g.b,.str x] [] ph bn (.ref n.ix)/\sB G.TS G.NI D bn/\n∈D.nodes/\n.name=x/\D.abs=eD x g.abs/\g.ig D/\D.nodes.length<=g.nodes.length+1:=by
 have mE:g.abs.any (λ n=>n.name==x)=decide (x∈g.nodes.map (·.name)):=by
  unfold Gr.abs;rw[List.any_map];rw[(iE),(pB),(decide_eq_true_iff),(aI)]
  constructor
  .rintro ⟨n,B,e⟩;exact⟨n,B,beq_iff_eq.mp e⟩
  .rintro ⟨n,B,e⟩;exact⟨n,B,beq_iff_eq.mpr e⟩
 by_cases C:x∈g.nodes.map (·.name)
 .obtain⟨n,B,rfl⟩:=aI.mp C;refine⟨ph,g,n,OF G S B,S,B,rfl,?_,rfl,Nat.le_succ _⟩;unfold eD;rw[mE,if_pos (decide_eq_true C)]
 .refine⟨v5 G.NI g ph x,Ag g ph x,⟨x,0,[],ph.length,ph.length+1⟩,OB G S C H,S.Wa C,nL _ (aO.mpr rfl),rfl,?_,rfl,by unfold Ag;simp⟩;unfold eD;rw[mE,if_neg (by simp[C])];unfold Ag Gr.abs;rw[aY];rfl
theorem Ow {ph:List PO}{g:Gr}{x:Str}(G:Top2 w V mg mb)(S:sB G.TS G.NI g ph)(T:g.ready=none)(U:g.nodes.length<100):
  ∃bn M,nb pp w V 4 (G.io 2) [.ref g.b,.str x] [] ph bn .none/\sB G.TS G.NI M bn/\M.abs=eD x g.abs/\g.ig M/\M.nodes.length<=g.nodes.length+1:=by
 have D:=G.m 2;apply bd;intro N;obtain⟨Db,Q,n,Y,S1,J,rfl,iR,Re,H⟩:=yJ (x:=x) G S U;apply N;have S2:=S1.tx J (n.np+0);refine⟨_,_,nb.of_body (loc:=[("self",.ref g.b),("node",.str n.name),("predecessors",.tup [])]) (fl:=.next) (ln:=[]) (bn:=Db.set n.ix (Nd.slot G.NI {n with np:=n.np+0})) G.T D.fn (re.NT λ u v=>D.zd λ d c Z I=>?_) (D.locs ["self","node","predecessors"] (by decide) rfl) ?_,S2,?_,?_,?_⟩
 .obtain⟨⟩:=d;cases c;cases Z;cases I;rfl
 .intro A L O R C;have K:=D.mt (L:=L);have eB:(Gr.fields g).lookup ("_ready_nodes" : Str)=some PV.none:=by show some g.dS=_;unfold Gr.dS;rw[T]
  have ff:∀B,u8 pp w V A (callEnvC (G.un 2) L (G.io 2)) (.ref g.b) "_ready_nodes" ⟨B,ph,O⟩ .none:=λ B=>u8.fld (st:=⟨B,ph,O⟩) G S.inst eB (by decide) (λ m e=>by cases e)
  apply bd;intro N;obtain⟨j,KB,cy⟩:=(G.m 1).fn.at_;apply N;apply XJ.drop;refine XJ.cons (SJ.iff (b:=false) (TJ.li (EJ.attr (EJ.loc rfl (D.kind rfl) K) (ff _)) EJ.const_none CJ.isNot_none) XJ.nil) ?_;refine XJ.cons (SJ.assign K (.inl (D.kind rfl)) (EJ.fy (EJ.loc rfl (D.kind rfl) K) (cW.ts G 1 rfl S.inst rfl) (am.cons (EJ.loc rfl (D.kind rfl) K) am.nil) KB cy Y R C.cw)) ?_;refine XJ.cons (SJ.w5 (EJ.loc rfl (D.kind rfl) K) (u8.slots G.Rs G.dp G.s1 (S1.node n J).1 rfl (λ m e=>by cases e)) (EJ.bY (EJ.builtin G.toTop1 K (λ _ _=>.blt _) (D.kind rfl)) (am.cons (EJ.loc rfl (D.kind rfl) K) am.nil) (ds.zC (by simp))) (bZ.slots G.Rs G.dp G.s1 (S1.node n J).1)) ?_;exact XJ.cons (SJ.for R.handled (EJ.loc rfl (D.kind rfl) K) rc.tup (FJ.done trivial XJ.nil)) XJ.nil
 .unfold Gr.abs at iR ⊢;show(Gt (λ m=>{m with np:=n.np+0}) n.name Q.nodes).map Nd.an=_;rw[xf (f:=λ v=>v+0) J S1.names,iR];unfold cC;rw[<-List.map_id (eD n.name _)];rw[bz];apply pH;intro m _;show(if (id m).name=n.name then _ else _)=m
  split<;>simp
 .show _=_;rw[Re]
 .show(Gt _ _ _).length<=_;unfold Gt;rw[aE];exact H
theorem RE {x:Str}{l:List Nd}{n:Nd}(B:n∈l)(C:(l.map (·.name)).Nodup)(v:Int):(Gt (λ m=>{m with np:=n.np+v}) n.name l).map Nd.an=cC n.name (· + v) (l.map Nd.an):=xf (f:=λ z=>z+v) B C
theorem Tv {ph:List PO}{g:Gr}{x y:Str}(G:Top2 w V mg mb)(S:sB G.TS G.NI g ph)(hr:g.ready=none)(T:g.nodes.length<90)(k:∀n∈g.nodes,n.succ.length<1000):
  ∃bn U,nb pp w V 4 (G.io 2) [.ref g.b,.str x,.str y] [] ph bn .none/\sB G.TS G.NI U bn/\U.abs=kC y x (eD y (cC x (· + 1) (eD x g.abs)))/\g.ig U/\U.nodes.length<=g.nodes.length+2:=by
 have D:=G.m 2;apply bd;intro J;obtain⟨Db,M,n,f,S1,Y,rfl,iR,Re,c⟩:=yJ (x:=x) G S (ww T rfl);apply J;have S2:=S1.tx Y (n.np+1);generalize cH:({M with nodes:=Gt (λ m=>{m with np:=n.np+1}) n.name M.nodes}:Gr)=g2 at S2;have adb:g2.nodes.length=M.nodes.length:=by rw[<-cH];show(Gt _ _ _).length=_;unfold Gt;rw[aE]
 have yK:M.ig g2:=by rw[<-cH];rfl
 have Js:g2.abs=cC n.name (· + 1) M.abs:=by rw[<-cH];exact RE (x:=n.name) Y S1.names 1
 apply bd;intro J;obtain⟨oM,N,m,wO,S3,O,rfl,FP,GB,acV⟩:=yJ (x:=y) G S2 (by lia);apply J;have r:=S3.QS O n.name;have FM:M.b=g.b:=by rw[Re]
 have gr:g2.b=g.b:=by rw[yK];exact FM
 have PT:m.succ.length<2000:=by
  have Q:m.an∈N.abs:=nr O;have q:∀a∈N.abs,a.succ.length<2000:=by
   rw[FP,Js,iR];have d:∀a∈g.abs,a.succ.length<2000:=λ a B=>by
    apply bd;intro J;obtain⟨z,hz,rfl⟩:=aI.mp B;apply J;have:=k z hz;show z.succ.length<_;exact ww this rfl
   have E:∀(x:Str) (l:List An),(∀a∈l,a.succ.length<2000)->∀a∈eD x l,a.succ.length<2000:=λ x l T a B=>by
    unfold eD at B
    split at B
    .exact T a B
    .rcases be.mp B with B|B
     .exact T a B
     .obtain rfl:=aO.mp B;show 0<2000;decide
   refine E _ _ λ a B=>?_
   apply bd;intro J;obtain⟨b,X,rfl⟩:=aI.mp B;apply J;have:=E n.name _ d b X
   split<;>exact this
  exact q _ Q
 refine⟨_,_,nb.of_body (loc:=[("self",.ref g.b),("node",.str n.name),("predecessors",.tup [.str m.name])]) (fl:=.next) (ln:=[]) (bn:=oM.set m.lx (.list ((m.succ++[n.name]).map .str))) G.T D.fn (re.UR λ u v t=>D.zd λ p o j Q=>?_) (D.locs ["self","node","predecessors"] (by decide) rfl) ?_,r,?_,?_,?_⟩
 .obtain⟨⟩:=p;cases o;cases j;cases Q;rfl
 .intro A L I R C;have K:=D.mt (L:=L);have eB:(Gr.fields g).lookup ("_ready_nodes" : Str)=some PV.none:=by show some g.dS=_;unfold Gr.dS;rw[hr]
  have ff:∀H,u8 pp w V A (callEnvC (G.un 2) L (G.io 2)) (.ref g.b) "_ready_nodes" ⟨H,ph,I⟩ .none:=λ H=>u8.fld (st:=⟨H,ph,I⟩) G S.inst eB (by decide) (λ m e=>by cases e)
  apply bd;intro J;obtain⟨ob,KB,cy⟩:=(G.m 1).fn.at_;apply J;rw[gr] at wO;have cI:=S2.inst;rw[gr] at cI;apply XJ.drop;refine XJ.cons (SJ.iff (b:=false) (TJ.li (EJ.attr (EJ.loc rfl (D.kind rfl) K) (ff _)) EJ.const_none CJ.isNot_none) XJ.nil) ?_;refine XJ.cons (SJ.assign K (.inl (D.kind rfl)) (EJ.fy (EJ.loc rfl (D.kind rfl) K) (cW.ts G 1 rfl S.inst rfl) (am.cons (EJ.loc rfl (D.kind rfl) K) am.nil) KB cy f R C.cw)) ?_;refine XJ.cons (SJ.w5 (EJ.loc rfl (D.kind rfl) K) (u8.slots G.Rs G.dp G.s1 (S1.node n Y).1 rfl (λ m e=>by cases e)) (EJ.bY (EJ.builtin G.toTop1 K (λ _ _=>.blt _) (D.kind rfl)) (am.cons (EJ.loc rfl (D.kind rfl) K) am.nil) (ds.zC (by simp))) (bZ.slots G.Rs G.dp G.s1 (S1.node n Y).1)) ?_;refine XJ.cons (SJ.for R.handled (EJ.loc rfl (D.kind rfl) K) rc.tup (FJ.next trivial (AJ.name K (.inl (D.kind rfl))) (XJ.cons (SJ.assign K (.inl (D.kind rfl)) (EJ.fy (EJ.loc rfl (D.kind rfl) K) (cW.ts G 1 rfl cI rfl) (am.cons (EJ.loc rfl (D.kind rfl) K) am.nil) KB cy wO R C.cw))
   (XJ.cons (SJ.expr K (EJ.io (EJ.attr (EJ.loc rfl (D.kind rfl) K) (u8.slots G.Rs G.dp G.s2 (S3.node m O).1 rfl (λ m e=>by cases e))) (on.append (S3.node m O).2) (am.cons (EJ.loc rfl (D.kind rfl) K) am.nil) (ds.append (S3.node m O).2 (by rw[aE,ak];exact ia PT rfl)))) XJ.nil)) (.inl rfl) (FJ.done trivial XJ.nil))) ?_
  exact XJ.ph _ XJ.nil (by rw[aY];rfl)
 .have e:(Gt (λ z=>{z with succ:=z.succ++[n.name]}) m.name N.nodes).map Nd.an=kC m.name n.name N.abs:=Yi;show(Gt (λ z=>{z with succ:=z.succ++[n.name]}) m.name N.nodes).map Nd.an=_;rw[e,FP,Js,iR]
 .show _=_;unfold Gr.ig at Re yK GB;rw[GB,yK,Re]
 .show(Gt _ _ _).length<=_;unfold Gt;rw[aE];lia
noncomputable def qJ (l:List Str)(a:List An):List An:=l.foldl (λ a x=>cC x (λ _=>-1) a) a
noncomputable def jb (s:aC):aF:=KT s 0
noncomputable def bo (s:aC):List aC:=dh s 0
theorem Ys {x:Str}{f:Int->Int}{a:List An}:(cC x f a).map (·.name)=a.map (·.name):=by
 unfold cC;rw[bz];apply pH;intro m _;show(if m.name=x then ({m with np:=f m.np}:An) else m).name=m.name
 split<;>rfl
theorem mf (g:Gr):g.abs.map (·.name)=g.nodes.map (·.name):=by unfold Gr.abs;rw[bz];rfl
theorem IJ {l:List Nd}{n:Nd}(B:n∈l)(C:(l.map (·.name)).Nodup)(v:Int):(Gt (λ m=>{m with np:=v}) n.name l).map Nd.an=cC n.name (λ _=>v) (l.map Nd.an):=xf (f:=λ _=>v) B C
theorem V0 {b d:Nat}{res:List PV}(G:Top2 w V mg mb):
  ∀(l:List Str) (g:Gr) (ph:List PO),sB G.TS G.NI g ph->g.d=d->(∀x∈l,x∈g.nodes.map (·.name)) ->
   ∃bn B,(∀A L fs,FJ pp w V A (callEnvC (G.un 4) L (G.io 4)) (λ _=>True) (jb (gl (ay (WP 4)) 3)) (bo (gl (ay (WP 4)) 3)) [] (l.map .str)
     ⟨[("n2i",.ref d),("result",.tup res),("self",.ref b)],ph,fs⟩ ⟨[("n2i",.ref d),("result",.tup res),("self",.ref b)],bn,fs⟩ .next)/\sB G.TS G.NI B bn/\B.abs=qJ l g.abs/\g.ig B:=by
 intro N
 induction N with
 |nil=>
  intro g ph S H _;exact⟨ph,g,λ _ _ _=>FJ.done trivial XJ.nil,S,rfl,rfl⟩
 |cons x l U=>
  intro g ph S H J;apply bd;intro Y;obtain⟨n,C,rfl⟩:=aI.mp (J x (aN ..));have S1:=S.tx C (-1);obtain⟨bn,B,O,T,iR,Re⟩:x24:=U _ _ S1 H (λ y R=>by
   show y∈(Gt _ _ _).map _;rw[rW (f:=λ m=>{m with np:=-1}) (λ n=>rfl)];exact J y (aT _ R))
  apply Y;refine⟨bn,B,λ A L fs=>?_,T,?_,?_⟩
  .have D:=G.m 4;have K:=D.mt (L:=L);exact FJ.next trivial (AJ.name K (.inl (D.kind rfl))) (XJ.sw (l:=[("n2i",.ref d),("result",.tup res),("self",.ref b)]) (al:=⟨[("node",.str n.name),("n2i",.ref d),("result",.tup res),("self",.ref b)],ph.set n.ix (Nd.slot G.NI {n with np:=-1}),fs⟩)
    (XJ.cons (SJ.jO (EJ.int_ (v:=-1) G.toTop1 K (D.kind rfl)) (EJ.sub (EJ.loc rfl (D.kind rfl) K) (EJ.loc rfl (D.kind rfl) K) (GJ.dict G.mods (H▸S.dict) (S.look C))) (bZ.slots G.Rs G.dp G.s1 (S.node n C).1)) XJ.nil) (aw.cons rfl (aw.cons rfl (aw.cons rfl .nil)))) (.inl rfl) (O A L fs)
  .rw[iR];show qJ l ((Gt (λ m=>{m with np:=-1}) n.name g.nodes).map Nd.an)=_;rw[(IJ C S.names)]
   rfl
  .unfold Gr.ig at Re ⊢;rw[Re]
theorem Fs {ph:List PO}{g:Gr}{r:Nat}{l:List Str}(G:Top2 w V mg mb)(S:sB G.TS G.NI g ph)(O:g.ready=some (r,l))(T:l.length<1000)(hx:∀x∈l,x∈g.nodes.map (·.name)):
  ∃bn N,nb pp w V 1 (G.io 4) [.ref g.b] [] ph bn (.tup (l.map .str))/\sB G.TS G.NI N bn/\N.abs=qJ l g.abs/\N={g with nodes:=N.nodes,ready:=some (r,[]),po:=g.po+l.length}:=by
 have D:=G.m 4;have eB:(Gr.fields g).lookup ("_ready_nodes" : Str)=some (PV.ref r):=by show some g.dS=_;unfold Gr.dS;rw[O]
 apply bd;intro Y;obtain⟨Db,H,U,S1,qC,jv⟩:x24:=V0 (b:=g.b) (d:=g.d) (res:=l.map .str) G l g ph S rfl hx;apply Y;have zn:H.ready=some (r,l):=by rw[jv];exact O
 have FM:H.b=g.b:=by rw[jv]
 have Vk:H.po=g.po:=by rw[jv]
 have S2:=S1.EC zn [];have S3:=S2.E3 (g.po+l.length) H.fi;have Z:Db[g.b]? = some (.inst G.TS H.fields):=FM▸S1.inst;have M:=S2.inst;have M:(Db.set r (.list []))[g.b]? = some (.inst G.TS ({H with ready:=some (r,[])}:Gr).fields):=FM▸M;have yI:(Gr.fields H).lookup ("_ready_nodes" : Str)=some (PV.ref r):=by show some H.dS=_;unfold Gr.dS;rw[zn]
 refine⟨_,_,nb.of_body (loc:=[("self",.ref g.b)]) (fl:=.ret (.tup (l.map .str))) (ln:=[]) (bn:=(Db.set r (.list [])).set g.b (.inst G.TS ({H with ready:=some (r,[]),po:=g.po+l.length}:Gr).fields)) G.T D.fn (re.p1 λ u=>D.binds λ _=>rfl) (D.locs ["self"] (by decide) rfl) ?_,FM▸S3,?_,?_⟩
 .intro A L J R C;have K:=D.mt (L:=L);have ff:∀B,u8 pp w V A (callEnvC (G.un 4) L (G.io 4)) (.ref g.b) "_ready_nodes" ⟨B,ph,J⟩ (.ref r):=λ B=>u8.fld (st:=⟨B,ph,J⟩) G S.inst eB (by decide) (λ m e=>by cases e)
  have YV:∀B,u8 pp w V A (callEnvC (G.un 4) L (G.io 4)) (.ref g.b) "_ready_nodes" ⟨B,Db,J⟩ (.ref r):=λ B=>u8.fld (st:=⟨B,Db,J⟩) G Z yI (by decide) (λ m e=>by cases e)
  have R6:∀B,u8 pp w V A (callEnvC (G.un 4) L (G.io 4)) (.ref g.b) "_npassedout" ⟨B,Db.set r (.list []),J⟩ (.int g.po):=λ B=>u8.fld (st:=⟨B,Db.set r (.list []),J⟩) G M (by show some (PV.int H.po)=_;rw[Vk]) (by decide) (λ m e=>by cases e)
  apply XJ.drop;refine XJ.cons (SJ.iff (b:=false) (TJ.li (EJ.attr (EJ.loc rfl (D.kind rfl) K) (ff _)) EJ.const_none CJ.is_none) XJ.nil) ?_;refine XJ.cons (SJ.assign K (.inl (D.kind rfl)) (EJ.fk (EJ.builtin G.toTop1 K (λ _ _=>.typ _) (D.kind rfl)) (am.cons (EJ.attr (EJ.loc rfl (D.kind rfl) K) (ff _)) am.nil) (ds.SF (S.ii r l O) (by rw[aE,ak];exact ia T rfl)))) ?_;refine XJ.cons (SJ.assign K (.inl (D.kind rfl)) (EJ.attr (EJ.loc rfl (D.kind rfl) K) (u8.fld (x:=.ref g.d) (st:=⟨_,ph,J⟩) G S.inst rfl (by decide) (λ m e=>by cases e)))) ?_;refine XJ.cons (SJ.for R.handled (EJ.loc rfl (D.kind rfl) K) rc.tup (U A L J)) ?_;refine XJ.cons (SJ.expr K (EJ.io (EJ.attr (EJ.loc rfl (D.kind rfl) K) (YV _)) (on.clear (S1.ii r l zn)) am.nil (ds.clear (S1.ii r l zn) (by rw[aE,ak];exact ia T rfl)))) ?_;refine XJ.cons (SJ.w5 (b:=l.length) (EJ.loc rfl (D.kind rfl) K) (R6 _) (EJ.val (.int l.length) (EJ.bY (EJ.builtin G.toTop1 K (λ _ _=>.blt _) (D.kind rfl)) (am.cons (EJ.loc rfl (D.kind rfl) K) am.nil) (ds.zC (by rw[aE];exact ww T rfl))) (by rw[aE])) (bZ.inst G.Rs G.jP G.kB M (G.iT _ (by decide)) (by unfold Gr.fields;simp))) ?_;exact XJ.ret (SJ.ret (EJ.loc rfl (D.kind rfl) K))
 .exact qC
 .unfold Gr.ig at jv;rw[jv]
noncomputable def jD (x:Str):List An->Int
 | []=>0
 |n::l=>if n.name=x then n.np else jD x l
noncomputable def fY (p:List An×List Str)(s:Str):List An×List Str:=(cC s (· - 1) p.1,if jD s p.1 - 1=0 then p.2++[s] else p.2)
noncomputable def vK (x:Str)(ss:List Str)(p:List An×List Str):List An×List Str:=ss.foldl fY (cC x (λ _=>-2) p.1,p.2)
theorem VP:∀{l:List Nd}{n:Nd},n∈l->(l.map (·.name)).Nodup->jD n.name (l.map Nd.an)=n.np:=by
 intro C
 induction C with
 |nil=>
  intro n B _;cases B
 |cons a l D=>
  intro n B h;rw[aL,c8] at h;rw[aL];show ite _ _ _=_
  rcases aG.mp B with q|q
  .subst q;rw[if_pos (show n.an.name=n.name from rfl)];rfl
  .rw[if_neg (show ¬a.an.name=n.name from λ e=>h.1 (aI.mpr ⟨n,q,e.symm⟩))];exact D q h.2
theorem yG {ph:List PO}{g:Gr}{r:Nat}{l:List Str}(G:Top2 w V mg mb)(S:sB G.TS G.NI g ph)(N:g.ready=some (r,l))(O:l.length<1000):
  nb pp w V 1 (G.io 5) [.ref g.b] [] ph ph (.bool (decide (g.fi<g.po) || !l.isEmpty)):=by
 have D:=G.m 5;have eB:(Gr.fields g).lookup ("_ready_nodes" : Str)=some (PV.ref r):=by show some g.dS=_;unfold Gr.dS;rw[N]
 refine nb.of_body (loc:=[("self",.ref g.b)]) (fl:=.ret (.bool (decide (g.fi<g.po) || !l.isEmpty))) (ln:=[]) G.T D.fn (re.p1 λ u=>D.binds λ _=>rfl) (D.locs ["self"] (by decide) rfl) ?_;intro A L H R C;have K:=D.mt (L:=L);have ff:∀B,u8 pp w V A (callEnvC (G.un 5) L (G.io 5)) (.ref g.b) "_ready_nodes" ⟨B,ph,H⟩ (.ref r):=λ B=>u8.fld (st:=⟨B,ph,H⟩) G S.inst eB (by decide) (λ m e=>by cases e)
 have sV:∀B,u8 pp w V A (callEnvC (G.un 5) L (G.io 5)) (.ref g.b) "_nfinished" ⟨B,ph,H⟩ (.int g.fi):=λ B=>u8.fld (st:=⟨B,ph,H⟩) G S.inst rfl (by decide) (λ m e=>by cases e)
 have yM:∀B,u8 pp w V A (callEnvC (G.un 5) L (G.io 5)) (.ref g.b) "_npassedout" ⟨B,ph,H⟩ (.int g.po):=λ B=>u8.fld (st:=⟨B,ph,H⟩) G S.inst rfl (by decide) (λ m e=>by cases e)
 have T:∀J:List Str,(J.map PV.str).isEmpty=J.isEmpty:=λ J=>by cases J<;>rfl
 apply XJ.drop;refine XJ.cons (SJ.iff (b:=false) (TJ.li (EJ.attr (EJ.loc rfl (D.kind rfl) K) (ff _)) EJ.const_none CJ.is_none) XJ.nil) ?_;have adO:∀l tZ qP uE,EJ pp w V A (callEnvC (G.un 5) L (G.io 5)) (.Compare (.Attribute (.Name "self" tZ) "_nfinished" qP) [.Lt] [.Attribute (.Name "self" l) "_npassedout" qP] uE) ⟨[("self",.ref g.b)],ph,H⟩ ⟨[("self",.ref g.b)],ph,H⟩ (.bool (decide (g.fi<g.po))):=λ l tZ qP uE=>
  EJ.li (EJ.attr (EJ.loc rfl (D.kind rfl) K) (sV _)) (EJ.attr (EJ.loc rfl (D.kind rfl) K) (yM _)) CJ.lt_int
 cases M:decide (g.fi<g.po) with
 |true=>
  exact XJ.ret (SJ.ret (EJ.GP (EJ.val (.bool true) (EJ.li (EJ.attr (EJ.loc rfl (D.kind rfl) K) (sV _)) (EJ.attr (EJ.loc rfl (D.kind rfl) K) (yM _)) CJ.lt_int) (by rw[M])) VT.bool))
 |false=>
  exact XJ.ret (SJ.ret (EJ.Il (EJ.val (.bool false) (EJ.li (EJ.attr (EJ.loc rfl (D.kind rfl) K) (sV _)) (EJ.attr (EJ.loc rfl (D.kind rfl) K) (yM _)) CJ.lt_int) (by rw[M])) VT.bool (EJ.val _ (EJ.fk (EJ.builtin G.toTop1 K (λ _ _=>.typ _) (D.kind rfl)) (am.cons (EJ.attr (EJ.loc rfl (D.kind rfl) K) (ff _)) am.nil) (ds.Yo (S.ii r l N) (by rw[aE];exact ww O rfl))) (by rw[T];rfl))))
noncomputable def Ny:aC:=gl (ay (WP 7)) 2
noncomputable def tj:aC:=gl (bo Ny) 4
noncomputable def tQ (b d:Nat):List (Str×PV):=[("n2i",.ref d),("self",.ref b)]
theorem Ng {b d r:Nat}(G:Top2 w V mg mb)(B:List Str)(Y:Nat):
  ∀(C:List Str) (g:Gr) (ph:List PO) (ii:List Str),sB G.TS G.NI g ph->g.b=b->g.d=d->g.ready=some (r,ii)->ii.length+C.length<1000->(∃m∈g.nodes,m.lx=Y/\m.succ=B)->(∀x∈C,x∈g.nodes.map (·.name)) ->
   ∃bn J eN,(∀A L fs,FJ pp w V A (callEnvC (G.un 7) L (G.io 7)) (λ ph=>ph[Y]? = some (.list (B.map .str))) (jb tj) (bo tj) [] (C.map .str) ⟨tQ b d,ph,fs⟩ ⟨tQ b d,bn,fs⟩ .next) /\
    sB G.TS G.NI J bn/\(J.abs,eN)=C.foldl fY (g.abs,ii)/\J={g with nodes:=J.nodes,ready:=some (r,eN)}/\(∃m∈J.nodes,m.lx=Y/\m.succ=B):=by
 intro l0
 induction l0 with
 |nil=>
  intro g ph ii S hb q p E Z _;exact⟨ph,g,ii,λ _ _ _=>FJ.done (by obtain⟨m,Q,T,U⟩:x13:=Z;exact T▸U▸(S.node m Q).2) XJ.nil,S,rfl,by rw[<-p],Z⟩
 |cons x C ih=>
  intro g ph ii S hb q p E Z hx;apply bd;intro R;obtain⟨n,O,rfl⟩:=aI.mp (hx x (aN ..));apply R;have S1:=S.tx O (n.np - 1);have Fw:ph[Y]? = some (.list (B.map .str)):=by obtain⟨m,Q,T,U⟩:x13:=Z;exact T▸U▸(S.node m Q).2
  generalize Go:({g with nodes:=Gt (λ m=>{m with np:=n.np - 1}) n.name g.nodes}:Gr)=g1 at S1;have kV:∃m∈g1.nodes,m.lx=Y/\m.succ=B:=by
   apply bd;intro R;obtain⟨m,Q,T,U⟩:x13:=Z;apply R;rw[<-Go];refine⟨if m.name=n.name then {m with np:=n.np - 1} else m,aI.mpr ⟨m,Q,rfl⟩,?_⟩
   split
   .exact⟨T,U⟩
   .exact⟨T,U⟩
  have xb:∀y∈C,y∈g1.nodes.map (·.name):=λ y hy=>by
   rw[<-Go];show y∈(Gt _ _ _).map _;rw[rW (f:=λ m=>{m with np:=n.np - 1}) (λ n=>rfl)];exact hx y (aT _ hy)
  have qC:g1.abs=cC n.name (· - 1) g.abs:=by
   rw[<-Go];exact xf (f:=λ z=>z - 1) O S.names
  have xo:jD n.name g.abs=n.np:=VP O S.names;have FM:g1.b=b:=by rw[<-Go];exact hb
  have hZ:g1.d=d:=by rw[<-Go];exact q
  have zn:g1.ready=some (r,ii):=by rw[<-Go];exact p
  have n1:({n with np:=n.np - 1}:Nd)∈g1.nodes:=by
   rw[<-Go];refine aI.mpr ⟨n,O,?_⟩;rw[if_pos rfl]
  have eO:=(S1.node _ n1).1;have RH:(ph.set n.ix (Nd.slot G.NI {n with np:=n.np - 1}))[b]? = some (.inst G.TS g1.fields):=FM▸S1.inst;have yI:(Gr.fields g1).lookup ("_ready_nodes" : Str)=some (PV.ref r):=by show some g1.dS=_;unfold Gr.dS;rw[zn]
  have M:∀A L fs bv k,XJ pp w V A (callEnvC (G.un 7) L (G.io 7)) [gl (bo tj) 2] ⟨[("successor_info",.ref n.ix),("successor",.str n.name),("n2i",.ref d),("self",.ref b)],ph.set n.ix (Nd.slot G.NI {n with np:=n.np - 1}),fs⟩ bv k ->
    XJ pp w V A (callEnvC (G.un 7) L (G.io 7)) (bo tj) ⟨("successor",.str n.name)::tQ b d,ph,fs⟩ bv k:=λ A L fs bv k h=>by
   have D:=G.m 7;have K:=D.mt (L:=L);refine XJ.cons (SJ.assign K (.inl (D.kind rfl)) (EJ.sub (EJ.loc rfl (D.kind rfl) K) (EJ.loc rfl (D.kind rfl) K) (GJ.dict G.mods (q▸S.dict) (S.look O)))) ?_;exact XJ.cons (SJ.VB (EJ.loc rfl (D.kind rfl) K) (u8.slots G.Rs G.dp G.s1 (S.node n O).1 rfl (λ m e=>by cases e)) EJ.ci (bZ.slots G.Rs G.dp G.s1 (S.node n O).1)) h
  have N:∀A L fs,TJ pp w V A (callEnvC (G.un 7) L (G.io 7)) (KT (gl (bo tj) 2) 0) ⟨[("successor_info",.ref n.ix),("successor",.str n.name),("n2i",.ref d),("self",.ref b)],ph.set n.ix (Nd.slot G.NI {n with np:=n.np - 1}),fs⟩ ⟨[("successor_info",.ref n.ix),("successor",.str n.name),("n2i",.ref d),("self",.ref b)],ph.set n.ix (Nd.slot G.NI {n with np:=n.np - 1}),fs⟩ (n.np - 1==0):=λ A L fs=>by
   have D:=G.m 7;have K:=D.mt (L:=L);exact TJ.li (EJ.attr (EJ.loc rfl (D.kind rfl) K) (u8.slots G.Rs G.dp G.s1 eO rfl (λ m e=>by cases e))) EJ.ci CJ.eq_int
  have wk:∀(v u:PV),aw (tQ b d) [("successor_info",v),("successor",u),("n2i",.ref d),("self",.ref b)]:=λ v u=>aw.cons rfl (aw.cons rfl .nil)
  by_cases c:n.np - 1=0
  .have S2:=S1.EC zn (ii++[n.name]);apply bd;intro R;obtain⟨bn,J,eN,j,X,o,Re,cQ⟩:=ih _ _ (ii++[n.name]) S2 FM hZ rfl (by simp at E ⊢;lia) kV xb;apply R;refine⟨bn,J,eN,λ A L fs=>?_,X,?_,?_,cQ⟩
   .have D:=G.m 7;have K:=D.mt (L:=L);have ff:u8 pp w V A (callEnvC (G.un 7) L (G.io 7)) (.ref b) "_ready_nodes" ⟨[("successor_info",.ref n.ix),("successor",.str n.name),("n2i",.ref d),("self",.ref b)],ph.set n.ix (Nd.slot G.NI {n with np:=n.np - 1}),fs⟩ (.ref r):=u8.fld (st:=⟨_,_,fs⟩) G RH yI (by decide) (λ m e=>by cases e);have I:=N A L fs;rw[show(n.np - 1==0)=true from beq_iff_eq.mpr c] at I;refine FJ.next Fw (AJ.name K (.inl (D.kind rfl))) (M A L fs _ _ (XJ.sw (al:=⟨[("successor_info",.ref n.ix),("successor",.str n.name),("n2i",.ref d),("self",.ref b)],(ph.set n.ix (Nd.slot G.NI {n with np:=n.np - 1})).set r (.list ((ii++[n.name]).map .str)),fs⟩) (XJ.cons (SJ.iff I (XJ.ph _ (XJ.cons (SJ.expr K (EJ.io (EJ.attr (EJ.loc rfl (D.kind rfl) K) ff) (on.append (S1.ii r ii zn)) (am.cons (EJ.loc rfl (D.kind rfl) K) am.nil) (ds.append (S1.ii r ii zn) (by rw[aE,ak];lia)))) XJ.nil) (by rw[aY];rfl))) XJ.nil) (wk _ _))) (.inl rfl) (j A L fs)
   .rw[o];show C.foldl fY (g1.abs,ii++[n.name])=C.foldl fY (fY (g.abs,ii) n.name);unfold fY;simp only;rw[xo,if_pos c,qC]
   .rw[Re,<-Go]
  .apply bd;intro R;obtain⟨bn,J,eN,j,X,o,Re,cQ⟩:=ih _ _ ii S1 FM hZ zn (by simp at E ⊢;exact dq E) kV xb;apply R;refine⟨bn,J,eN,λ A L fs=>?_,X,?_,?_,cQ⟩
   .have D:=G.m 7;have K:=D.mt (L:=L);have I:=N A L fs;rw[show(n.np - 1==0)=false from beq_eq_false_iff_ne.mpr c] at I;exact FJ.next Fw (AJ.name K (.inl (D.kind rfl))) (M A L fs _ _ (XJ.sw (al:=⟨[("successor_info",.ref n.ix),("successor",.str n.name),("n2i",.ref d),("self",.ref b)],ph.set n.ix (Nd.slot G.NI {n with np:=n.np - 1}),fs⟩) (XJ.cons (SJ.iff I XJ.nil) XJ.nil) (wk _ _))) (.inl rfl) (j A L fs)
   .rw[o];show C.foldl fY (g1.abs,ii)=C.foldl fY (fY (g.abs,ii) n.name);unfold fY;simp only;rw[xo,if_neg c,qC]
   .rw[Re,<-Go]
theorem Yf {ph:List PO}{g:Gr}{r:Nat}{ii:List Str}{n:Nd}(G:Top2 w V mg mb)(S:sB G.TS G.NI g ph)(T:g.ready=some (r,ii))(M:n∈g.nodes)(xc:n.np=-1)(Y:ii.length+n.succ.length<1000)(hx:∀x∈n.succ,x∈g.nodes.map (·.name)):
  ∃bn O eN,nb pp w V 1 (G.io 7) [.ref g.b,.str n.name] [] ph bn .none/\sB G.TS G.NI O bn/\(O.abs,eN)=vK n.name n.succ (g.abs,ii)/\O={g with nodes:=O.nodes,ready:=some (r,eN),fi:=g.fi+1}:=by
 have D:=G.m 7;have eB:(Gr.fields g).lookup ("_ready_nodes" : Str)=some (PV.ref r):=by show some g.dS=_;unfold Gr.dS;rw[T]
 have S1:=S.tx M (-2);generalize Go:({g with nodes:=Gt (λ m=>{m with np:=-2}) n.name g.nodes}:Gr)=g1 at S1;have FM:g1.b=g.b:=by rw[<-Go]
 have hZ:g1.d=g.d:=by rw[<-Go]
 have zn:g1.ready=some (r,ii):=by rw[<-Go];exact T
 have n1:({n with np:=-2}:Nd)∈g1.nodes:=by
  rw[<-Go];refine aI.mpr ⟨n,M,?_⟩;rw[if_pos rfl]
 have xb:∀y∈n.succ,y∈g1.nodes.map (·.name):=λ y Q=>by
  rw[<-Go];show y∈(Gt _ _ _).map _;rw[rW (f:=λ m=>{m with np:=-2}) (λ n=>rfl)];exact hx y Q
 have qC:g1.abs=cC n.name (λ _=>-2) g.abs:=by
  rw[<-Go];exact IJ M S.names (-2)
 apply bd;intro k;obtain⟨Da,J,eN,Z,S2,p,Re,q⟩:=Ng (b:=g.b) (d:=g.d) (r:=r) G n.succ n.lx n.succ g1 _ ii S1 FM hZ zn Y ⟨_,n1,rfl,rfl⟩ xb;apply k;have gr:J.b=g.b:=by rw[Re];exact FM
 have BW:J.fi=g.fi:=by rw[Re,<-Go]
 have mO:J.po=g.po:=by rw[Re,<-Go]
 have S3:=S2.E3 J.po (g.fi+1);have mw:Da[g.b]? = some (.inst G.TS J.fields):=gr▸S2.inst;have QI:(ph.set n.ix (Nd.slot G.NI {n with np:=-2}))[n.lx]? = some (.list (n.succ.map .str)):=(S1.node _ n1).2;refine⟨_,_,eN,nb.of_body (loc:=[("self",.ref g.b),("nodes",.tup [.str n.name])]) (fl:=.next) (ln:=[]) (bn:=Da.set g.b (.inst G.TS ({J with po:=J.po,fi:=g.fi+1}:Gr).fields)) G.T D.fn (re.VJ λ u v=>D.zd λ o j I c=>?_) (D.locs ["self","nodes"] (by decide) rfl) ?_,gr▸S3,?_,?_⟩
 .obtain⟨⟩:=o;cases j;cases I;cases c;rfl
 .intro A L H R C;have K:=D.mt (L:=L);have ff:∀B,u8 pp w V A (callEnvC (G.un 7) L (G.io 7)) (.ref g.b) "_ready_nodes" ⟨B,ph,H⟩ (.ref r):=λ B=>u8.fld (st:=⟨B,ph,H⟩) G S.inst eB (by decide) (λ m e=>by cases e)
  have sV:∀B,u8 pp w V A (callEnvC (G.un 7) L (G.io 7)) (.ref g.b) "_nfinished" ⟨B,Da,H⟩ (.int g.fi):=λ B=>u8.fld (st:=⟨B,Da,H⟩) G mw (by show some (PV.int J.fi)=_;rw[BW]) (by decide) (λ m e=>by cases e)
  have E:(g.tab.lookup n.name).getD .none = .ref n.ix:=by rw[S.look M];rfl
  have de:({n with np:=-1}:Nd)=n:=by rw[<-xc]
  have N9:∀B,u8 pp w V A (callEnvC (G.un 7) L (G.io 7)) (.ref n.ix) "npredecessors" ⟨B,ph,H⟩ (.int (-1)):=λ B=>u8.slots (st:=⟨B,ph,H⟩) G.Rs G.dp G.s1 (S.node n M).1 (by show some (some (PV.int n.np))=_;rw[xc]) (λ m e=>by cases e)
  apply XJ.drop;refine XJ.cons (SJ.iff (b:=false) (TJ.li (EJ.attr (EJ.loc rfl (D.kind rfl) K) (ff _)) EJ.const_none CJ.is_none) XJ.nil) ?_;refine XJ.cons (SJ.assign K (.inl (D.kind rfl)) (EJ.attr (EJ.loc rfl (D.kind rfl) K) (u8.fld (x:=.ref g.d) (st:=⟨_,ph,H⟩) G S.inst rfl (by decide) (λ m e=>by cases e)))) ?_;refine XJ.cons (SJ.for R.handled (EJ.loc rfl (D.kind rfl) K) rc.tup (FJ.next (bi:=⟨tQ g.b g.d,Da.set g.b (.inst G.TS ({J with po:=J.po,fi:=g.fi+1}:Gr).fields),H⟩) trivial (AJ.name K (.inl (D.kind rfl))) ?_ (.inl rfl) (FJ.done trivial XJ.nil))) XJ.nil;refine XJ.cons (SJ.iff (b:=false) (TJ.li (EJ.named (EJ.val (.ref n.ix) (EJ.io (EJ.loc rfl (D.kind rfl) K) (on.om G.mods S.dict) (am.cons (EJ.loc rfl (D.kind rfl) K) am.nil) (ds.om G.mods S.dict)) E) (AJ.name K (.inl (D.kind rfl)))) EJ.const_none CJ.is_none) XJ.nil) ?_;refine XJ.cons (SJ.assign K (.inl (D.kind rfl)) (EJ.attr (EJ.loc rfl (D.kind rfl) K) (N9 _))) ?_;refine XJ.cons (SJ.iff (b:=false) (TJ.li (EJ.loc rfl (D.kind rfl) K) (EJ.int_ (v:=-1) G.toTop1 K (D.kind rfl)) CJ.ne_int) XJ.nil) ?_;refine XJ.cons (SJ.jO (EJ.int_ (v:=-2) G.toTop1 K (D.kind rfl)) (EJ.loc rfl (D.kind rfl) K) (bZ.slots G.Rs G.dp G.s1 (S.node n M).1)) ?_;refine XJ.cons (SJ.for (al:=⟨[("stat",.int (-1)),("nodeinfo",.ref n.ix),("node",.str n.name),("n2i",.ref g.d),("self",.ref g.b),("nodes",.tup [.str n.name])],ph.set n.ix (Nd.slot G.NI {n with np:=-2}),H⟩) R.handled (EJ.attr (EJ.loc rfl (D.kind rfl) K) (u8.slots G.Rs G.dp G.s2 (S1.node _ n1).1 rfl (λ m e=>by cases e))) (rc.ref QI) (FJ.pre (Z A L H) (aw.cons rfl (aw.cons rfl .nil)))) ?_;exact XJ.cons (SJ.w5 (EJ.loc rfl (D.kind rfl) K) (sV _) EJ.ci (bZ.inst G.Rs G.jP G.kB mw (G.iT _ (by decide)) (by unfold Gr.fields;simp))) XJ.nil
 .unfold vK;simp only;rw[<-qC];exact p
 .rw[Re,<-Go]
abbrev bG:=Str×Nat×Nat
noncomputable def bL:List bG->List (Str×PV)
 | []=>[]
 |x::r=>bL r++[(x.1,.int r.length)]
structure bC (g:Gr)(s0:Nat)(dL:List bG)(seen:List Str)(db ph:List PO):Prop where
 keep:∀(i:Nat) o,db[i]? = some o->ph[i]? = some o
 stack:ph[s0]? = some (.list (dL.reverse.map λ x=>.str x.1))
 its:ph[s0+1]? = some (.list (dL.reverse.map λ x=>.TE x.2.1))
 seen:ph[s0+2]? = some (.set seen)
 tab:ph[s0+3]? = some (.dict (bL dL) none)
 nZ:∀x∈dL,s0+4<=x.2.1/\∃n∈g.nodes,n.name=x.1/\ph[x.2.1]? = some (.iter n.lx x.2.2)
 wv:(dL.map (·.2.1)).Nodup
 sz:(dL.map (·.1)).Nodup
 len:db.length=s0
theorem zU {x:Str}:∀{dL:List bG},x∉dL.map (·.1)->(bL dL).lookup x=none:=by
 intro B
 induction B with
 |nil=>
  intro _;exact rfl
 |cons a r C=>
  intro h;rw[aL,aG,not_or] at h;show(bL r++[(a.1,PV.int r.length)]).lookup x=_;rw[List.lookup_append,C h.2];have:(x==a.1)=false:=by rw[(beq_eq_false_iff_ne)];exact h.1
  simp[cK,this]
theorem WS {x:Str}:∀{dL:List bG},x∈dL.map (·.1)->(dL.map (·.1)).Nodup->∃i:Nat,(bL dL).lookup x=some (.int i)/\i<dL.length:=by
 intro C
 induction C with
 |nil=>
  intro h _;cases h
 |cons a r G=>
  intro h B;rw[aL,c8] at B;show ∃i:Nat,(bL r++[(a.1,PV.int r.length)]).lookup x=_/\_;rw[List.lookup_append]
  by_cases q:x∈r.map (·.1)
  .obtain⟨i,H,D⟩:=G q B.2;exact⟨i,by rw[H];rfl,by simp;exact lY D⟩
  .rw[aL,aG] at h;have e:x=a.1:=h.resolve_right q;refine⟨r.length,?_,by simp⟩;rw[zU q];subst e
   simp[cK]
theorem HC:∀{dL:List bG},(bL dL).map (·.1)=(dL.map (·.1)).reverse:=by
 intro B
 induction B with
 |nil=>
  exact rfl
 |cons a r C=>
  show(bL r++[_]).map _=_;rw[aY,C];simp
theorem HL:∀{dL:List bG},(bL dL).length=dL.length:=by
 intro B
 induction B with
 |nil=>
  exact rfl
 |cons a r C=>
  show(bL r++[_]).length=_;simp[C]
theorem Zi {es:List (Str×PV)}{x:Str}{v:PV}(h:x∉es.map (·.1)):bE es x v=es++[(x,v)]:=by
 unfold bE;rw[(if_neg)];intro q;obtain⟨p,B,e⟩:=pB.mp q;exact h (aI.mpr ⟨p,B,by simpa using e⟩)
theorem UN {es:List (Str×PV)}{x:Str}{v:PV}(h:x∉es.map (·.1)):mA (es++[(x,v)]) x=es:=by
 unfold mA;rw[List.filter_append];have C:es.filter (λ D=>decide (D.1≠x))=es:=by
  rw[(List.filter_eq_self)];intro p B;simp only[decide_eq_true_eq];intro e;exact h (aI.mpr ⟨p,B,e⟩)
 rw[C]
 simp
section
variable {g:Gr}{s0:Nat}{dL:List bG}{seen:List Str}{db ph:List PO}
theorem bC.lt (F:bC g s0 dL seen db ph):s0+3<ph.length/\∀x∈dL,x.2.1<ph.length:=
 ⟨(cb.mp F.tab).1,λ x B=>by obtain⟨_,n,_,_,e⟩:x0213:=F.nZ x B;exact (cb.mp e).1⟩
theorem bC.low (F:bC g s0 dL seen db ph){i:Nat}{o:PO}(h:db[i]? = some o):i<s0:=by rw[<-F.len];exact(cb.mp h).1
theorem bC.step {x:Str}{m i:Nat}{n:Nd}(F:bC g s0 ((x,m,i)::dL) seen db ph)(J:n∈g.nodes)(O:n.name=x):bC g s0 ((x,m,i+1)::dL) seen db (ph.set m (.iter n.lx (i+1))):=by
 have C:s0+4<=m:=(F.nZ _ (aN ..)).1;have G:=F.lt.2 _ (aN ..);have fS:=F.wv;rw[aL,c8] at fS;refine⟨λ j o e=>?_,?_,?_,?_,?_,λ y B=>?_,F.wv,F.sz,F.len⟩
 .have:=F.low e;rw[bc (by lia)];exact F.keep j o e
 .rw[bc (by lia)];have:=F.stack
  simpa using this
 .rw[bc (by lia)];have:=F.its
  simpa using this
 .rw[bc (by lia)];exact F.seen
 .rw[bc (aS C)];exact F.tab
 .rcases aG.mp B with rfl|B
  .exact⟨C,n,J,O,by show(ph.set m _)[m]? = _;rw[j5 G]⟩
  .apply bd;intro N;obtain⟨M,D,R,L,H⟩:x0213:=F.nZ y (aT _ B);apply N;refine⟨M,D,R,L,?_⟩;rw[bc (λ e=>fS.1 (aI.mpr ⟨y,B,e⟩))];exact H
noncomputable def Ao (s0 m:Nat)(dL:List bG)(ph:List PO):List PO:=
 (((ph.set m .gone).set s0 (.list (dL.reverse.map λ x=>.str x.1))).set (s0+3) (.dict (bL dL) none)).set (s0+1) (.list (dL.reverse.map λ x=>.TE x.2.1))
theorem bC.pop {x:Str}{m i:Nat}(F:bC g s0 ((x,m,i)::dL) seen db ph):bC g s0 dL seen db (Ao s0 m dL ph):=by
 have N:s0+4<=m:=(F.nZ _ (aN ..)).1;have M:=F.lt;have fS:=F.wv;have wc:=F.sz;rw[aL,c8] at fS wc;unfold Ao;refine⟨λ j o e=>?_,?_,?_,?_,?_,λ y C=>?_,fS.2,wc.2,F.len⟩
 .have:=F.low e;rw[bc (aS (lS this)),bc (by lia),bc (aS this),bc (by lia)];exact F.keep j o e
 .rw[bc (tF rfl),bc (tF rfl),j5 (by rw[jl];lia)]
 .rw[j5 (by simp only[jl];lia)]
 .rw[bc (iL rfl),bc (iL rfl),bc (oF rfl),bc (by lia)];exact F.seen
 .rw[bc (iL rfl),j5 (by simp only[jl];lia)]
 .apply bd;intro J;obtain⟨B,D,L,H,G⟩:x0213:=F.nZ y (aT _ C);apply J;refine⟨B,D,L,H,?_⟩;rw[bc (by lia),bc (eF B),bc (by lia),bc (λ e=>fS.1 (aI.mpr ⟨y,C,e⟩))];exact G
noncomputable def wM (s0 lx:Nat)(x:Str)(dL:List bG)(seen:List Str)(ph:List PO):List PO:=
 ((((ph.set (s0+2) (.set (seen++[x])))++[PO.iter lx 0]).set (s0+1) (.list ((((x,ph.length,0):bG)::dL).reverse.map λ x=>.TE x.2.1))).set (s0+3) (.dict (bL (((x,ph.length,0):bG)::dL)) none)).set s0 (.list ((((x,ph.length,0):bG)::dL).reverse.map λ x=>.str x.1))
theorem bC.push {n:Nd}(F:bC g s0 dL seen db ph)(L:n∈g.nodes)(hx:n.name∉dL.map (·.1)):bC g s0 ((n.name,ph.length,0)::dL) (seen++[n.name]) db (wM s0 n.lx n.name dL seen ph):=by
 have D:=F.lt;unfold wM;refine⟨λ j o e=>?_,?_,?_,?_,?_,λ y B=>?_,?_,?_,F.len⟩
 .have:=F.low e;rw[bc (aS this),bc (by lia),bc (aS (lS this)),cm (by rw[jl];lia),bc (by lia)];exact F.keep j o e
 .rw[j5 (by simp only[jl,aP];lia)]
 .rw[bc (oF rfl),bc (iL rfl),j5 (by simp only[jl,aP];lia)]
 .rw[bc (oF rfl),bc (iL rfl),bc (iL rfl),cm (by rw[jl];lia),j5 (by lia)]
 .rw[bc (oF rfl),j5 (by simp only[jl,aP];lia)]
 .rcases aG.mp B with rfl|B
  .refine⟨by show s0+4<=ph.length;lia,n,L,rfl,?_⟩;show(List.set _ _ _)[ph.length]? = _;rw[bc (by lia),bc (by lia),bc (by lia),fF (by rw[jl];exact aJ _)]
   simp
  .apply bd;intro C;obtain⟨G,H,N,M,J⟩:x0213:=F.nZ y B;apply C;have:=D.2 y B;refine⟨G,H,N,M,?_⟩;rw[bc (by lia),bc (eF G),bc (by lia),cm (by rw[jl];exact this),bc (by lia)];exact J
 .rw[aL,(c8)];refine⟨λ h=>?_,F.wv⟩;apply bd;intro C;obtain⟨y,B,e⟩:=aI.mp h;apply C;have:=D.2 y B;have e:y.2.1=ph.length:=e
  lia
 .rw[aL,(c8)];exact⟨hx,F.sz⟩
end
noncomputable def xv (s:aC):List aC:=dh s 1
noncomputable def nY:aC:=gl (ay (WP 8)) 5
noncomputable def jG:aC:=gl (bo nY) 1
noncomputable def mu:aC:=gl (TI jG) 1
noncomputable def UV (l:List Nd)(x:Str):List Str:=((l.find? (λ n=>n.name==x)).map (·.succ)).getD []
theorem AZ:∀{l:List Nd}{n:Nd},n∈l->(l.map (·.name)).Nodup->UV l n.name=n.succ:=by
 intro C
 induction C with
 |nil=>
  intro n B _;cases B
 |cons a l D=>
  intro n B h;rw[aL,c8] at h;unfold UV;rw[List.find?_cons]
  rcases aG.mp B with q|q
  .subst q;simp
  .have e:(a.name==n.name)=false:=by
    rw[(beq_eq_false_iff_ne)];intro e;exact h.1 (aI.mpr ⟨n,q,e.symm⟩)
   rw[e];exact D q h.2
noncomputable def jt (sc:Str->List Str):List bG->Option (Str×List bG)
 | []=>none
 |(x,m,i)::r=>match (sc x)[i]? with
  |some y=>some (y,(x,m,i+1)::r)
  |none=>jt sc r
theorem m3:jt sc ((x,m,i)::r)=match (sc x)[i]? with|some y=>some (y,(x,m,i+1)::r)|none=>jt sc r:=rfl
noncomputable def FS (s0 d:Nat):List (Str×PV):=[("node2stacki",.ref (s0+3)),("seen",.ref (s0+2)),("itstack",.ref (s0+1)),("stack",.ref s0),("n2i",.ref d)]
theorem Uo {pg:aK}{w:aA}{V:Im}:eV pg w V (.type "StopIteration") (.type "StopIteration") true:=by
 have h:=eV.builtin (pg:=pg) (w:=w) (V:=V) (X:="StopIteration") (T:="StopIteration") (b:=true) (by rw[fD];kernel_rfl) (by rw[fD];kernel_rfl) (by rw[fD];kernel_rfl);exact h
theorem EJ.neg (h:EJ pg w V A ew x st al (.int a)):EJ pg w V A ew (.UnaryOp .USub x pos) st al (.int (-a)):=λ I M s Q E k q=>
 wpAny_UnaryOp (h _ _ _ _ _ k λ L H N u G D J B C=>by cases C;exact PyProof.Rows.neg_int ((q.at G D B).toks J (.int _ _)))
theorem uk {α B:Type}(f:α->B)(x:α)(l:List α):((x::l).reverse.map f)=l.reverse.map f++[f x]:=by simp
theorem Rr {g:Gr}{B d:Nat}{seen:List Str}{db:List PO}(G:Top2 w V mg mb)(M:(g.nodes.map (·.name)).Nodup)(X:∀n∈g.nodes,db[n.lx]? = some (.list (n.succ.map .str))):
  ∀(dL:List bG) (ph:List PO),bC g B dL seen db ph->dL.length<1000 ->
   (jt (UV g.nodes) dL=none->∃bn,bC g B [] seen db bn/\∀A L fs,A.handled=none->Ctx A (callEnvC (G.un 8) L (G.io 8)) fs->∃n,WJ pp w V A (callEnvC (G.un 8) L (G.io 8)) (dP mu) (TI mu) (xv mu) n ⟨FS B d,ph,fs⟩ ⟨FS B d,bn,fs⟩ .brk) /\
   (∀y Tm,jt (UV g.nodes) dL=some (y,Tm)->∃bn,bC g B Tm seen db bn/\∀A L fs,A.handled=none->Ctx A (callEnvC (G.un 8) L (G.io 8)) fs->∃n,WJ pp w V A (callEnvC (G.un 8) L (G.io 8)) (dP mu) (TI mu) (xv mu) n ⟨FS B d,ph,fs⟩ ⟨("node",.str y)::FS B d,bn,fs⟩ .next):=by
 intro p
 induction p with
 |nil=>
  intro ph F T;refine⟨λ _=>⟨ph,F,λ A L fs J C=>⟨0,?_⟩⟩,λ y Tm e=>by cases e⟩;have D:=G.m 8;have K:=D.mt (L:=L);exact WJ.done 0 (TJ.val (EJ.loc rfl (D.kind rfl) K) (VT.ref (xs:=[]) F.stack (by simp))) (XJ.stop SJ.brk (by intro e;cases e))
 |cons u dL ih=>
  obtain(⟨x,m,i⟩):=u;intro ph F T;apply bd;intro Q;obtain⟨j,n,c,rfl,Y⟩:x0213:=F.nZ _ (aN ..);apply Q;have j:B+4<=m:=j;have JH:ph[n.lx]? = some (.list (n.succ.map .str)):=F.keep _ _ (X n c);have N:UV g.nodes n.name=n.succ:=AZ c M;have H:∀A L fs,TJ pp w V A (callEnvC (G.un 8) L (G.io 8)) (dP mu) ⟨FS B d,ph,fs⟩ ⟨FS B d,ph,fs⟩ true:=λ A L fs=>by
   have D:=G.m 8;have K:=D.mt (L:=L);have o:=VT.ref (pg:=pp) (w:=w) (V:=V) (A:=A) (ew:=callEnvC (G.un 8) L (G.io 8)) (st:=⟨FS B d,ph,fs⟩) F.stack (by rw[aE,jn];exact ww T rfl);have e:(!(((n.name,m,i)::dL).reverse.map λ x=>PV.str x.1).isEmpty)=true:=by rw[uk];simp
   rw[e] at o;exact TJ.val (EJ.loc rfl (D.kind rfl) K) o
  have U:∀A L fs Z tZ qP uE k,EJ pp w V A (callEnvC (G.un 8) L (G.io 8)) (.Subscript (.Name "itstack" tZ) (.UnaryOp .USub (.Constant (.int 1) k qP) uE) Z) ⟨FS B d,ph,fs⟩ ⟨FS B d,ph,fs⟩ (.TE m):=λ A L fs Z tZ qP uE k=>by
   have D:=G.m 8;have K:=D.mt (L:=L);have R:=F.its;rw[uk] at R;refine EJ.sub (EJ.loc rfl (D.kind rfl) K) (EJ.neg EJ.ci) (GJ.Sp R (by decide) ?_ (by decide) ?_)
   .simp;lia
   .have:((-1:Int)+((dL.reverse.map (λ x=>PV.TE x.2.1)++[PV.TE m]).length:Nat)).toNat=dL.length:=by simp;lia
    rw[this]
    simp
  cases pT:n.succ[i]? with
  |some y=>
   refine⟨λ e=>?_,λ q Tm e=>?_⟩
   .rw[m3,N,pT] at e;cases e
   .rw[m3] at e;rw[N,pT] at e;cases e;refine⟨_,F.step c rfl,λ A L fs J C=>⟨0,?_⟩⟩;have D:=G.m 8;have K:=D.mt (L:=L);exact WJ.brk 0 (H A L fs) (XJ.stop (SJ.mL (XJ.cons (SJ.assign K (.inl (D.kind rfl)) (EJ.Br (U A L fs _ _ _ _ _) Y JH (by rw[cM,pT];rfl))) (XJ.stop SJ.brk (by intro e;cases e)))) (by intro e;cases e))
  |none=>
   have z:=F.pop;obtain⟨RC,Ob⟩:x02:=ih _ z (by simp at T;exact dq T);have E:=F.sz;rw[aL,c8] at E;have adC:=F.lt;have O:∀A L fs,A.handled=none->Ctx A (callEnvC (G.un 8) L (G.io 8)) fs->XJ pp w V A (callEnvC (G.un 8) L (G.io 8)) (TI mu) ⟨FS B d,ph,fs⟩ ⟨FS B d,Ao B m dL ph,fs⟩ .next:=λ A L fs J C=>by
    have D:=G.m 8;have K:=D.mt (L:=L);have I:(ph.set m .gone)[B]? = some (.list (dL.reverse.map (λ x=>PV.str x.1)++[.str n.name])):=by
     rw[bc (by lia),F.stack,uk]
    have hZ:((ph.set m .gone).set B (.list (dL.reverse.map (λ x=>PV.str x.1))))[B+3]? = some (.dict (bL dL++[(n.name,.int dL.length)]) none):=by
     rw[bc (oF rfl),bc (aS j)];exact F.tab
    have r:n.name∉(bL dL).map (·.1):=by rw[HC];simpa using E.1
    have eB:(bL dL++[(n.name,PV.int dL.length)]).lookup n.name=some (.int dL.length):=by
     rw[List.lookup_append,zU E.1];simp
    have Eb:(((ph.set m .gone).set B (.list (dL.reverse.map (λ x=>PV.str x.1)))).set (B+3) (.dict (bL dL) none))[B+1]? = some (.list (dL.reverse.map (λ x=>PV.TE x.2.1)++[.TE m])):=by
     rw[bc (iL rfl),bc (oF rfl),bc (by lia),F.its,uk]
    refine XJ.cons (SJ.qj C (XX.head (SX.assign (RX.Br J (U A L fs _ _ _ _ _) Y JH (by rw[cM,pT];rfl)))) (fZ.blt G.T K (D.kind rfl) (G.fT ("StopIteration",.type "StopIteration") (by decide)).1 (G.fT ("StopIteration",.type "StopIteration") (by decide)).2) Uo λ e=>?_) XJ.nil;refine XJ.cons (SJ.ph (((ph.set m .gone).set B (.list (dL.reverse.map (λ x=>PV.str x.1)))).set (B+3) (.dict (bL dL) none)) (SJ.Wv G.mods (EJ.loc rfl (D.kind rfl) K) (EJ.io (EJ.loc rfl (D.kind rfl) K) (on.pop I) am.nil (ds.pop I (by rw[aE,jn,ak];simp at T;lia))) hZ eB (by rw[aP,HL,ak];simp at T ⊢;lia)) (by show List.set _ _ _=_;rw[UN r])) ?_;exact XJ.cons (SJ.expr K (EJ.io (EJ.loc rfl (D.kind rfl) K) (on.pop Eb) am.nil (ds.pop Eb (by rw[aE,jn,ak];simp at T;lia)))) XJ.nil
   refine⟨λ e=>?_,λ q Tm e=>?_⟩
   .rw[m3] at e;rw[N,pT] at e;apply bd;intro Q;obtain⟨bn,f,W⟩:=RC e;apply Q;refine⟨bn,f,λ A L fs J C=>?_⟩;obtain⟨k,W⟩:=W A L fs J C;exact⟨k+1,WJ.next (H A L fs) (O A L fs J C) (.inl rfl) W⟩
   .rw[m3] at e;rw[N,pT] at e;apply bd;intro Q;obtain⟨bn,f,W⟩:=Ob _ _ e;apply Q;refine⟨bn,f,λ A L fs J C=>?_⟩;obtain⟨k,W⟩:=W A L fs J C;exact⟨k+1,WJ.next (H A L fs) (O A L fs J C) (.inl rfl) W⟩
noncomputable def eU (sc:Str->List Str):List Str->Prop
 | []=>True
 |x::r=>(∀y∈sc x,y∈r)/\eU sc r
noncomputable def dD (sc:Str->List Str)(fin:List Str):Option Str->List bG->Prop
 |_,[]=>True
 |a,(x,m,i)::r=>(∀(k:Nat) y,k<i->(sc x)[k]? = some y->y∈fin\/some y=a)/\(∀z,a=some z->z∈sc x)/\dD sc fin (some x) r
def oZ (sc:Str->List Str)(C:List Str):Prop:=C≠[]/\∀c∈C,∃p∈C,c∈sc p
section
variable {sc:Str->List Str}{fin:List Str}{dL:List bG}
theorem dD.more {bD:List Str}{a:Option Str}(h:∀z∈fin,z∈bD):∀{dL:List bG},dD sc fin a dL->dD sc bD a dL:=by
 intro dL
 induction dL generalizing a with
 |nil=>intro _;trivial
 |cons e r B=>
  obtain(⟨x,m,i⟩):=e;intro H;exact⟨λ k y C e=>(H.1 k y C e).imp (h y) id,H.2.1,B H.2.2⟩
theorem dD.met {y:Str}(h:dD sc fin (some y) dL)(C:y∈fin):dD sc fin none dL:=by
 cases dL with
 |nil=>trivial
 |cons e r=>
  obtain(⟨x,m,i⟩):=e;exact⟨λ k z B e=>.inl ((h.1 k z B e).elim id λ q=>by cases q;exact C),(λ z q=>by cases q),h.2.2⟩
theorem dD.push {y:Str}{m:Nat}(h:dD sc fin (some y) dL):dD sc fin none ((y,m,0)::dL):=⟨(λ k z B _=>by cases B),(λ z q=>by cases q),h⟩
theorem UC:∀{dL:List bG}{fin:List Str},dD sc fin none dL->eU sc fin->jt sc dL=none->∃bD,eU sc bD/\∀z,z∈bD↔z∈fin\/z∈dL.map (·.1):=by
 intro G
 induction G with
 |nil=>
  intro fin _ T _;exact⟨fin,T,λ z=>by simp⟩
 |cons N r L=>
  obtain(⟨x,m,i⟩):=N;intro fin H T e;rw[m3] at e
  cases C:(sc x)[i]? with
  |some y=>rw[C] at e;cases e
  |none=>
   rw[C] at e;have B:∀y∈sc x,y∈fin:=λ y R=>by
    obtain(⟨k,D,rfl⟩):=List.getElem_of_mem R;have Bv:k<i:=by
     have:=List.getElem?_eq_none_iff.mp C;exact av D this
    exact(H.1 k _ Bv (dc D)).elim id λ q=>by cases q
   obtain⟨bD,M,J⟩:=L (dD.met (H.2.2.more (bD:=x::fin) λ z O=>aT _ O) (aN ..)) ⟨B,T⟩ e;refine⟨bD,M,λ z=>?_⟩;rw[(J z)];simp only[aG,aL]
   constructor
   .rintro ((h|h)|h)
    .exact .inr (.inl h)
    .exact .inl h
    .exact .inr (.inr h)
   .rintro (h|h|h)
    .exact .inl (.inr h)
    .exact .inl (.inl h)
    .exact .inr h
theorem Wh:∀{dL:List bG}{fin:List Str}{y Tm},dD sc fin none dL->eU sc fin->jt sc dL=some (y,Tm)->∃bD,eU sc bD/\dD sc bD (some y) Tm/\(∀z,(z∈bD\/z∈Tm.map (·.1))↔z∈fin\/z∈dL.map (·.1))/\∃x∈dL.map (·.1),y∈sc x:=by
 intro J
 induction J with
 |nil=>
  intro fin y Tm _ T e;cases e
 |cons Y r R=>
  obtain(⟨x,m,i⟩):=Y;intro fin y Tm H T e;rw[m3] at e
  cases B:(sc x)[i]? with
  |some Q=>
   rw[B] at e;cases e;refine⟨fin,T,⟨λ k z C e=>?_,λ z q=>?_,H.2.2⟩,λ z=>Iff.rfl,x,aN ..,eX B⟩
   .by_cases q:k=i
    .subst q;rw[B] at e;cases e;exact .inr rfl
    .exact .inl ((H.1 k z (by lia) e).elim id λ q=>by cases q)
   .cases q;exact eX B
  |none=>
   rw[B] at e;have D:∀y∈sc x,y∈fin:=λ y M=>by
    apply bd;intro G;obtain(⟨k,C,rfl⟩):=List.getElem_of_mem M;apply G;have Bv:k<i:=by
     have:=List.getElem?_eq_none_iff.mp B;exact av C this
    exact(H.1 k _ Bv (dc C)).elim id λ q=>by cases q
   apply bd;intro G;obtain⟨bD,U,N,O,L,qM,sY⟩:x130212:=R (dD.met (H.2.2.more (bD:=x::fin) λ z Z=>aT _ Z) (aN ..)) ⟨D,T⟩ e;apply G;refine⟨bD,U,N,λ z=>?_,L,aT _ qM,sY⟩;rw[(O z)];simp only[aG,aL]
   constructor
   .rintro ((h|h)|h)
    .exact .inr (.inl h)
    .exact .inl h
    .exact .inr (.inr h)
   .rintro (h|h|h)
    .exact .inl (.inr h)
    .exact .inl (.inl h)
    .exact .inr h
theorem NN:∀{dL:List bG}{a z:Str},dD sc fin (some a) dL->z∈dL.map (·.1)->∃C:List Str,z∈C/\(∀c∈C,c=z\/∃p∈C,c∈sc p)/\∃t∈C,a∈sc t:=by
 intro D
 induction D with
 |nil=>
  intro a z _ h;cases h
 |cons N r G=>
  obtain(⟨x,m,i⟩):=N;intro a z H h
  by_cases q:x=z
  .subst q;exact⟨[x],aO.mpr rfl,λ c B=>.inl (aO.mp B),x,aO.mpr rfl,H.2.1 a rfl⟩
  .rw[aL,aG] at h;apply bd;intro R;obtain⟨C,O,T,t,M,J⟩:x1312:=G H.2.2 (h.resolve_left λ e=>q e.symm);apply R;refine⟨x::C,aT _ O,λ c B=>?_,x,aN ..,H.2.1 a rfl⟩
   rcases aG.mp B with rfl|B
   .exact .inr ⟨t,aT _ M,J⟩
   .exact(T c B).imp id λ⟨p,L,e⟩=>⟨p,aT _ L,e⟩
theorem Vg {z:Str}(H:dD sc fin (some z) dL)(h:z∈dL.map (·.1)):∃C,oZ sc C:=by
 apply bd;intro G;obtain⟨C,D,L,t,B,M⟩:x1312:=NN H h;apply G;refine⟨C,List.ne_nil_of_mem D,λ c J=>?_⟩
 rcases L c J with rfl|q
 .exact⟨t,B,M⟩
 .exact q
noncomputable def o6 (sc:Str->List Str)(dL:List bG):Nat:=(dL.map λ e=>(sc e.1).length - e.2.2).sum
theorem YW:∀{dL:List bG}{y Tm},jt sc dL=some (y,Tm)->o6 sc Tm+1<=o6 sc dL:=by
 intro C
 induction C with
 |nil=>
  intro y Tm e;cases e
 |cons G r D=>
  obtain(⟨x,m,i⟩):=G;intro y Tm e;rw[m3] at e
  cases B:(sc x)[i]? with
  |some H=>
   rw[B] at e;cases e;have:=(cb.mp B).1;unfold o6;simp only[aL,lZ]
   lia
  |none=>
   rw[B] at e;have:=D e;unfold o6 at this ⊢;simp only[aL,lZ];exact av this (eb ..)
theorem Ql:∀{dL:List bG}{y Tm},jt sc dL=some (y,Tm)->Tm.length<=dL.length:=by
 intro C
 induction C with
 |nil=>
  intro y Tm e;cases e
 |cons G r D=>
  obtain(⟨x,m,i⟩):=G;intro y Tm e;rw[m3] at e
  cases B:(sc x)[i]? with
  |some H=>rw[B] at e;cases e;simp
  |none=>
   rw[B] at e;have:=D e
   simp;exact lY this
end
noncomputable def fb (wt:Nd->Nat)(l:List Nd)(seen:List Str):Nat:=(l.map λ n=>if n.name∈seen then 0 else wt n).sum
theorem Wm {wt:Nd->Nat}{seen:List Str}{x:Str}:∀{l:List Nd},fb wt l (seen++[x])<=fb wt l seen:=by
 intro B
 induction B with
 |nil=>
  exact aJ _
 |cons a l C=>
  have:=C;unfold fb at this ⊢;simp only[aL,lZ];have h:(if a.name∈seen++[x] then 0 else wt a)<=(if a.name∈seen then 0 else wt a):=by
   by_cases q:a.name∈seen
   .rw[if_pos (iI _ q),if_pos q];exact aJ _
   .rw[if_neg q]
    split
    .exact eJ _
    .exact aJ _
  exact Nat.add_le_add h this
theorem Jl {wt:Nd->Nat}{seen:List Str}:∀{l:List Nd}{n:Nd},n∈l->n.name∉seen->fb wt l (seen++[n.name])+wt n<=fb wt l seen:=by
 intro G
 induction G with
 |nil=>
  intro n C _;cases C
 |cons a l B=>
  intro n C D;have H:=Wm (wt:=wt) (seen:=seen) (x:=n.name) (l:=l)
  rcases aG.mp C with q|q
  .subst q;unfold fb at H ⊢;simp only[aL,lZ];rw[if_pos (nL _ (aO.mpr rfl)),if_neg D]
   lia
  .have B:=B q D;unfold fb at B ⊢;simp only[aL,lZ];have h:(if a.name∈seen++[n.name] then 0 else wt a)<=(if a.name∈seen then 0 else wt a):=by
    by_cases q:a.name∈seen
    .rw[if_pos (iI _ q),if_pos q];exact aJ _
    .rw[if_neg q]
     split
     .exact eJ _
     .exact aJ _
   lia
structure ur (G:Top2 w V mg mb)(g:Gr)(ep:Nat)(db:List PO):Prop where
 dict:db[g.d]? = some (.dict g.tab (some ep))
 node:∀n∈g.nodes,db[n.ix]? = some (n.slot G.NI)/\db[n.lx]? = some (.list (n.succ.map .str))
 names:(g.nodes.map (·.name)).Nodup
 GT:∀n∈g.nodes,∀y∈n.succ,y∈g.nodes.map (·.name)
 small:g.nodes.length<=50
theorem ur.sc {G:Top2 w V mg mb}{g:Gr}{ep:Nat}{db:List PO}(B:ur G g ep db){x y:Str}(h:y∈UV g.nodes x):y∈g.nodes.map (·.name):=by
 unfold UV at h
 cases e:g.nodes.find? (λ n=>n.name==x) with
 |none=>rw[e] at h;cases h
 |some n=>rw[e] at h;exact B.GT n (List.mem_of_find?_eq_some e) y h
def G9 (G:Top2 w V mg mb)(g:Gr)(s0:Nat)(db:List PO)(node:Str)(seen:List Str)(ph:List PO):Prop:=
 (∃l bn,(l≠[]/\l.length<=1000)/\(∃C,oZ (UV g.nodes) C)/\(∃Tm eK,bC g s0 Tm eK db bn)/\∀A L fs,A.handled=none->Ctx A (callEnvC (G.un 8) L (G.io 8)) fs->∃n,WJ pp w V A (callEnvC (G.un 8) L (G.io 8)) (dP jG) (TI jG) (xv jG) n ⟨("node",.str node)::FS s0 g.d,ph,fs⟩ ⟨[],bn,fs⟩ (.ret (.lst l))) \/
 (∃bn eK bD,bC g s0 [] eK db bn/\eU (UV g.nodes) bD/\(∀z,z∈eK↔z∈bD)/\(∀z∈seen,z∈eK)/\node∈eK/\eK.length+fb (λ _=>1) g.nodes eK<=g.nodes.length /\
  ∀A L fs,A.handled=none->Ctx A (callEnvC (G.un 8) L (G.io 8)) fs->∃n,WJ pp w V A (callEnvC (G.un 8) L (G.io 8)) (dP jG) (TI jG) (xv jG) n ⟨("node",.str node)::FS s0 g.d,ph,fs⟩ ⟨FS s0 g.d,bn,fs⟩ .next)
theorem Zj {g:Gr}{O ep:Nat}{db:List PO}(G:Top2 w V mg mb)(B:ur G g ep db):
  ∀(N:Nat) (J:Str) (dL:List bG) (seen R:List Str) (ph:List PO),bC g O dL seen db ph->J∈g.nodes.map (·.name)->eU (UV g.nodes) R->dD (UV g.nodes) R (some J) dL ->
   (∀z,z∈seen↔z∈R\/z∈dL.map (·.1))->dL.length<=seen.length->seen.length+fb (λ _=>1) g.nodes seen<=g.nodes.length ->
   fb (λ n=>n.succ.length+1) g.nodes seen+o6 (UV g.nodes) dL<=N ->
   G9 G g O db J seen ph:=by
 intro N
 induction N using Nat.strongRecOn with
 |_ N ih=>
 intro J dL seen R ph F Qx T H xt I f hN;have mC:=B.small;have wk:∀v,aw (FS O g.d) (("node",v)::FS O g.d):=λ v=>aw.cons rfl (aw.cons rfl (aw.cons rfl (aw.cons rfl (aw.cons rfl .nil))))
 have u:∀A L M ph,TJ pp w V A (callEnvC (G.un 8) L (G.io 8)) (dP jG) ⟨("node",.str J)::FS O g.d,ph,M⟩ ⟨("node",.str J)::FS O g.d,ph,M⟩ true:=λ A L M ph=>TJ.val EJ.fu VT.bool
 have go:∀mi gw Db,bC g O mi gw db Db->dD (UV g.nodes) R none mi->(∀z,z∈gw↔z∈R\/z∈mi.map (·.1))->mi.length<=gw.length->gw.length+fb (λ _=>1) g.nodes gw<=g.nodes.length ->
   fb (λ n=>n.succ.length+1) g.nodes gw+o6 (UV g.nodes) mi<=N->(∀z∈seen,z∈gw)->J∈gw ->
   (∀A L M,A.handled=none->Ctx A (callEnvC (G.un 8) L (G.io 8)) M->SJ pp w V A (callEnvC (G.un 8) L (G.io 8)) (gl (TI jG) 0) ⟨("node",.str J)::FS O g.d,ph,M⟩ ⟨("node",.str J)::FS O g.d,Db,M⟩ .next)->G9 G g O db J seen ph:=by
  intro mi gw Db F1 H1 Ga mH xj oz E U first
  apply bd;intro k;obtain⟨i1,i2⟩:x02:=Rr (d:=g.d) G B.names (λ n Z=>(B.node n Z).2) mi Db F1 (by lia)
  cases o:jt (UV g.nodes) mi with
  |none=>
   obtain⟨bn,X,W⟩:=i1 o;obtain⟨bD,T',h'⟩:=UC H1 T o;refine k (Or.inr ⟨bn,gw,bD,X,T',λ z=>?_,E,U,xj,λ A L M Y C=>?_⟩)
   .rw[(Ga z),(h' z)]
   .obtain⟨n,W⟩:=W A L M Y C;exact⟨0,WJ.brk 0 (u A L M ph) (XJ.cons (first A L M Y C) (XJ.stop (SJ.pre (st:=⟨("node",.str J)::FS O g.d,Db,M⟩) (SJ.while W) (wk _)) (by intro e;cases e)))⟩
  |some p=>
   obtain(⟨y,Tm⟩):=p;obtain⟨bn,X,W⟩:=i2 y Tm o;obtain⟨bD,T',S',h',x',qM,sY⟩:x130212:=Wh H1 T o;have hr:=YW o;have yx:=Ql o
   rcases ih (N - 1) (by lia) y Tm gw bD bn X (B.sc sY) T' S' (λ z=>by rw[(Ga z),<-(h' z)]) (av yx mH) xj (by lia) with⟨l,Da,hl,hC,hF,c⟩|⟨Da,rp,nW,F2,T2,ja,kM,rd,W9,c⟩
   .refine k (Or.inl ⟨l,Da,hl,hC,hF,λ A L M Y C=>?_⟩);obtain⟨n,W⟩:=W A L M Y C;obtain⟨n2,c⟩:=c A L M Y C;exact⟨n2+1,WJ.next (u A L M ph) (XJ.cons (first A L M Y C) (XJ.cons (SJ.pre (st:=⟨("node",.str J)::FS O g.d,Db,M⟩) (SJ.while W) (wk _)) XJ.nil)) (.inl rfl) c⟩
   .refine k (Or.inr ⟨Da,rp,nW,F2,T2,ja,λ z r=>kM z (E z r),kM _ U,W9,λ A L M Y C=>?_⟩);obtain⟨n,W⟩:=W A L M Y C;obtain⟨n2,c⟩:=c A L M Y C;exact⟨n2+1,WJ.next (u A L M ph) (XJ.cons (first A L M Y C) (XJ.cons (SJ.pre (st:=⟨("node",.str J)::FS O g.d,Db,M⟩) (SJ.while W) (wk _)) XJ.nil)) (.inl rfl) c⟩
 have kA:∀A L M b,decide (J∈seen)=b->TJ pp w V A (callEnvC (G.un 8) L (G.io 8)) (KT (gl (TI jG) 0) 0) ⟨("node",.str J)::FS O g.d,ph,M⟩ ⟨("node",.str J)::FS O g.d,ph,M⟩ b:=λ A L M b hb=>by
  have D:=G.m 8;have K:=D.mt (L:=L);exact hb▸TJ.li (EJ.loc rfl (D.kind rfl) K) (EJ.loc rfl (D.kind rfl) K) (CJ.JP F.seen)
 by_cases Q:J∈seen
 .by_cases j:J∈dL.map (·.1)
  .-- a ring
   apply bd;intro k;obtain⟨i,hi,hil⟩:=WS j F.sz;apply k;have eO:∀{z},(fA (dL.reverse.map λ x=>PV.str x.1) z none++[PV.str J]).length<=1000:=by
    intro z;rw[(aP)];exact av (lU R8 1) (by rw[aE,jn];lia)
   refine Or.inl ⟨fA (dL.reverse.map λ x=>PV.str x.1) (some i) none++[.str J],ph,⟨by simp,eO⟩,Vg H j,⟨_,_,F⟩,λ A L M Y C=>⟨0,?_⟩⟩;have D:=G.m 8;have K:=D.mt (L:=L);have U:((bL dL).lookup J).isSome=true:=by rw[hi];rfl
   refine WJ.ret 0 (u A L M ph) ?_;apply XJ.drop;refine XJ.stop (SJ.iff (b:=true) (kA A L M true (decide_eq_true Q)) (XJ.stop (SJ.iff (b:=true) (U▸TJ.li (EJ.loc rfl (D.kind rfl) K) (EJ.loc rfl (D.kind rfl) K) (CJ.in_dict G.mods F.tab)) (XJ.ret (SJ.ret (EJ.bin (EJ.YH (EJ.loc rfl (D.kind rfl) K) (PJ.some (EJ.sub (EJ.loc rfl (D.kind rfl) K) (EJ.loc rfl (D.kind rfl) K) (GJ.dict G.mods F.tab hi))) PJ.none F.stack (by rw[aE,jn,ak];lia)) (EJ.list (am.cons (EJ.loc rfl (D.kind rfl) K) am.nil) (by rw[ak];simp)) (BJ.eg ?_))))) (by intro e;cases e))) (by intro e;cases e);rw[<-(aP)];exact av eO (by rw[(ak)];decide)
  .-- seen and done
   have hf:J∈R:=((xt J).mp Q).resolve_right j;refine go dL seen ph F (H.met hf) xt I f hN (λ z r=>r) Q λ A L M Y C=>?_
   have D:=G.m 8;have K:=D.mt (L:=L);have U:((bL dL).lookup J).isSome=false:=by rw[zU j];rfl
   exact SJ.iff (b:=true) (kA A L M true (decide_eq_true Q)) (XJ.cons (SJ.iff (b:=false) (U▸TJ.li (EJ.loc rfl (D.kind rfl) K) (EJ.loc rfl (D.kind rfl) K) (CJ.in_dict G.mods F.tab)) XJ.nil) XJ.nil)
 .-- new
  apply bd;intro k;obtain⟨n,Z,rfl⟩:=aI.mp Qx;apply k;have j:n.name∉dL.map (·.1):=λ h=>Q ((xt _).mpr (.inr h))
  have hw1:=Jl (wt:=λ _=>1) Z Q;have hw2:=Jl (wt:=λ n=>n.succ.length+1) Z Q;have hsc:UV g.nodes n.name=n.succ:=AZ Z B.names;refine go ((n.name,ph.length,0)::dL) (seen++[n.name]) _ (F.push Z j) H.push (λ z=>?_) (by simp;exact I) (by simp;lia) ?_ (λ z r=>iI _ r) (nL _ (aO.mpr rfl)) λ A L M Y C=>?_
  .rw[(be),(aO),(xt z),aL,(aG)]
   constructor
   .rintro ((h|h)|h)
    .exact .inl h
    .exact .inr (.inr h)
    .exact .inr (.inl h)
   .rintro (h|h|h)
    .exact .inl (.inl h)
    .exact .inr h
    .exact .inl (.inr h)
  .unfold o6 at hN ⊢;simp only[aL,lZ];rw[hsc]
   lia
  .have D:=G.m 8;have K:=D.mt (L:=L);have hl:=F.lt;have adk:=F.low B.dict;have adn:=F.low (B.node n Z).1;have adN:=F.low (B.node n Z).2;have d1:(ph.set (O+2) (.set (seen++[n.name])))[g.d]? = some (.dict g.tab (some ep)):=by rw[bc (by lia)];exact F.keep _ _ B.dict
   have i1:(ph.set (O+2) (.set (seen++[n.name])))[n.ix]? = some (n.slot G.NI):=by rw[bc (by lia)];exact F.keep _ _ (B.node n Z).1
   have l1:(ph.set (O+2) (.set (seen++[n.name])))[n.lx]? = some (.list (n.succ.map .str)):=by rw[bc (by lia)];exact F.keep _ _ (B.node n Z).2
   have mH:(ph.set (O+2) (.set (seen++[n.name]))).length=ph.length:=jl;have m2:((ph.set (O+2) (.set (seen++[n.name])))++[PO.iter n.lx 0])[ph.length]? = some (.iter n.lx 0):=by rw[<-mH];simp
   have t2:((ph.set (O+2) (.set (seen++[n.name])))++[PO.iter n.lx 0])[O+1]? = some (.list (dL.reverse.map λ x=>.TE x.2.1)):=by
    rw[cm (by rw[mH];lia),bc (iL rfl)];exact F.its
   have s3:(((ph.set (O+2) (.set (seen++[n.name])))++[PO.iter n.lx 0]).set (O+1) (.list (dL.reverse.map (λ x=>PV.TE x.2.1)++[.TE ph.length])))[O]? = some (.list (dL.reverse.map λ x=>.str x.1)):=by
    rw[bc (tF rfl),cm (by rw[mH];lia),bc (tF rfl)];exact F.stack
   have d3:(((ph.set (O+2) (.set (seen++[n.name])))++[PO.iter n.lx 0]).set (O+1) (.list (dL.reverse.map (λ x=>PV.TE x.2.1)++[.TE ph.length])))[O+3]? = some (.dict (bL dL) none):=by
    rw[bc (iL rfl),cm (by rw[mH];lia),bc (iL rfl)];exact F.tab
   have s4:((((ph.set (O+2) (.set (seen++[n.name])))++[PO.iter n.lx 0]).set (O+1) (.list (dL.reverse.map (λ x=>PV.TE x.2.1)++[.TE ph.length]))).set (O+3) (.dict (bE (bL dL) n.name (.int dL.length)) none))[O]? = some (.list (dL.reverse.map λ x=>.str x.1)):=by
    rw[bc (tF rfl)];exact s3
   have q:n.name∉(bL dL).map (·.1):=by rw[HC];simpa using j
   refine SJ.iff (b:=false) (kA A L M false (decide_eq_false Q)) ?_;apply XJ.mQ (wM O n.lx n.name dL seen ph)
   .refine XJ.cons (SJ.expr K (EJ.io (EJ.loc rfl (D.kind rfl) K) (on.zL F.seen) (am.cons (EJ.loc rfl (D.kind rfl) K) am.nil) (ds.zL F.seen Q (by lia)))) ?_;refine XJ.cons (SJ.expr K (EJ.io (EJ.loc rfl (D.kind rfl) K) (on.append (xs:=dL.reverse.map λ x=>.TE x.2.1) (by show(List.set _ _ _)[O+1]? = _;rw[bc (iL rfl)];exact F.its)) (am.cons (EJ.val (.TE ph.length) (EJ.attr (EJ.bY (EJ.builtin G.toTop1 K (λ _ _=>.blt _) (D.kind rfl)) (am.cons (EJ.attr (EJ.sub (EJ.loc rfl (D.kind rfl) K) (EJ.loc rfl (D.kind rfl) K) (GJ.dict G.mods d1 (JB B.names Z))) (u8.slots G.Rs G.dp G.s2 i1 rfl (λ m e=>by cases e))) am.nil) (ds.Tn l1)) (u8.next (by show(_++_)[_]? = _;rw[mH];exact m2))) (by show PV.TE (List.length (ph.set _ _))=_;rw[mH])) am.nil) (ds.append t2 (by rw[aE,jn,ak];lia)))) ?_;refine XJ.cons (SJ.wg (EJ.val (.int dL.length) (EJ.bY (EJ.builtin G.toTop1 K (λ _ _=>.blt _) (D.kind rfl)) (am.cons (EJ.loc rfl (D.kind rfl) K) am.nil) (ds.XH s3 (by rw[(aE),(jn)];lia))) (by rw[aE,jn])) (AJ.dict_set G.mods (EJ.loc rfl (D.kind rfl) K) (EJ.loc rfl (D.kind rfl) K) d3 (by rw[HL,ak];lia))) ?_;exact XJ.cons (SJ.expr K (EJ.io (EJ.loc rfl (D.kind rfl) K) (on.append s4) (am.cons (EJ.loc rfl (D.kind rfl) K) am.nil) (ds.append s4 (by rw[aE,jn,ak];lia)))) XJ.nil
   .unfold wM;rw[Zi q];simp only[uk,bL,mr,Option.map_none]
theorem Qi {g:Gr}{M ep:Nat}{db:List PO}(G:Top2 w V mg mb)(B:ur G g ep db):
  ∀(rest:List Str) (seen H:List Str) (ph:List PO),bC g M [] seen db ph->eU (UV g.nodes) H->(∀z,z∈seen↔z∈H)->seen.length+fb (λ _=>1) g.nodes seen<=g.nodes.length->(∀x∈rest,x∈g.nodes.map (·.name)) ->
   (∃l bn,(l≠[]/\l.length<=1000)/\(∃C,oZ (UV g.nodes) C)/\(∃Tm eK,bC g M Tm eK db bn)/\∀A L fs,A.handled=none->Ctx A (callEnvC (G.un 8) L (G.io 8)) fs ->
     FJ pp w V A (callEnvC (G.un 8) L (G.io 8)) (λ ph=>ph[g.d]? = some (.dict g.tab (some ep))) (jb nY) (bo nY) [] (rest.map .str) ⟨FS M g.d,ph,fs⟩ ⟨[],bn,fs⟩ (.ret (.lst l))) \/
   (∃bn eK bD,bC g M [] eK db bn/\eU (UV g.nodes) bD/\(∀z,z∈eK↔z∈bD)/\(∀z∈seen,z∈eK)/\(∀x∈rest,x∈eK)/\∀A L fs,A.handled=none->Ctx A (callEnvC (G.un 8) L (G.io 8)) fs ->
     FJ pp w V A (callEnvC (G.un 8) L (G.io 8)) (λ ph=>ph[g.d]? = some (.dict g.tab (some ep))) (jb nY) (bo nY) [] (rest.map .str) ⟨FS M g.d,ph,fs⟩ ⟨FS M g.d,bn,fs⟩ .next):=by
 intro p
 induction p with
 |nil=>
  intro seen H ph F T E J _;exact .inr ⟨ph,seen,H,F,T,E,λ z k=>k,(λ x Q=>by cases Q),λ A L fs N C=>FJ.done (F.keep _ _ B.dict) XJ.nil⟩
 |cons x rest o=>
  intro seen H ph F T E J Q;have m:∀v,aw (FS M g.d) (("node",v)::FS M g.d):=λ v=>aw.cons rfl (aw.cons rfl (aw.cons rfl (aw.cons rfl (aw.cons rfl .nil))))
  have kA:∀A L fs b,decide (x∈seen)=b->TJ pp w V A (callEnvC (G.un 8) L (G.io 8)) (KT (gl (bo nY) 0) 0) ⟨("node",.str x)::FS M g.d,ph,fs⟩ ⟨("node",.str x)::FS M g.d,ph,fs⟩ b:=λ A L fs b r=>by
   have D:=G.m 8;have K:=D.mt (L:=L);exact r▸TJ.li (EJ.loc rfl (D.kind rfl) K) (EJ.loc rfl (D.kind rfl) K) (CJ.JP F.seen)
  have si:∀A L fs,AJ pp w V A (callEnvC (G.un 8) L (G.io 8)) (jb nY) (.str x) ⟨FS M g.d,ph,fs⟩ ⟨("node",.str x)::FS M g.d,ph,fs⟩:=λ A L fs=>by
   have D:=G.m 8;have K:=D.mt (L:=L);exact AJ.name K (.inl (D.kind rfl))
  apply bd;intro I
  by_cases R:x∈seen
  .rcases o seen H ph F T E J (λ y O=>Q y (aT _ O)) with⟨l,Da,U,Z,Y,W⟩|⟨Da,rp,nW,d,j,ja,kM,rd,W⟩
   .refine I (.inl ⟨l,Da,U,Z,Y,λ A L fs N C=>?_⟩);exact FJ.next (F.keep _ _ B.dict) (si A L fs) (XJ.sw (al:=⟨("node",.str x)::FS M g.d,ph,fs⟩) (XJ.stop (SJ.iff (b:=true) (kA A L fs true (decide_eq_true R)) (XJ.stop SJ.cont (by intro e;cases e))) (by intro e;cases e)) (m _)) (.inr rfl) (W A L fs N C)
   .refine I (.inr ⟨Da,rp,nW,d,j,ja,kM,λ y O=>(aG.mp O).elim (λ e=>kM _ (e▸R)) (rd y),λ A L fs N C=>?_⟩);exact FJ.next (F.keep _ _ B.dict) (si A L fs) (XJ.sw (al:=⟨("node",.str x)::FS M g.d,ph,fs⟩) (XJ.stop (SJ.iff (b:=true) (kA A L fs true (decide_eq_true R)) (XJ.stop SJ.cont (by intro e;cases e))) (by intro e;cases e)) (m _)) (.inr rfl) (W A L fs N C)
  .rcases Zj G B _ x [] seen H ph F (Q x (aN ..)) T trivial (λ z=>by rw[(E z)];simp) (eJ _) J (aJ _) with⟨l,Db,U,Z,Y,W⟩|⟨Db,gw,M5,q,u,f,V6,Mq,xj,W⟩
   .refine I (.inl ⟨l,Db,U,Z,Y,λ A L fs N C=>?_⟩);obtain⟨n,W⟩:=W A L fs N C;exact FJ.ret (F.keep _ _ B.dict) (si A L fs) (XJ.cons (SJ.iff (b:=false) (kA A L fs false (decide_eq_false R)) XJ.nil) (XJ.ret (SJ.while W)))
   .rcases o gw M5 Db q u f xj (λ y O=>Q y (aT _ O)) with⟨l,Da,U,Z,Y,c⟩|⟨Da,rp,nW,d,j,ja,kM,rd,c⟩
    .refine I (.inl ⟨l,Da,U,Z,Y,λ A L fs N C=>?_⟩);obtain⟨n,W⟩:=W A L fs N C;exact FJ.next (F.keep _ _ B.dict) (si A L fs) (XJ.cons (SJ.iff (b:=false) (kA A L fs false (decide_eq_false R)) XJ.nil) (XJ.cons (SJ.while W) XJ.nil)) (.inl rfl) (c A L fs N C)
    .refine I (.inr ⟨Da,rp,nW,d,j,ja,λ z k=>kM z (V6 z k),λ y O=>(aG.mp O).elim (λ e=>kM _ (e▸Mq)) (rd y),λ A L fs N C=>?_⟩);obtain⟨n,W⟩:=W A L fs N C;exact FJ.next (F.keep _ _ B.dict) (si A L fs) (XJ.cons (SJ.iff (b:=false) (kA A L fs false (decide_eq_false R)) XJ.nil) (XJ.cons (SJ.while W) XJ.nil)) (.inl rfl) (c A L fs N C)
def PY (nodes:List Nd)(r:PV):Prop:=(r = .none/\∃fin,eU (UV nodes) fin/\∀n∈nodes,n.name∈fin)\/(∃l,(l≠[]/\l.length<=1000)/\r = .lst l/\∃C,oZ (UV nodes) C)
theorem VV {ph:List PO}{g:Gr}(G:Top2 w V mg mb)(S:sB G.TS G.NI g ph)(j:∀n∈g.nodes,∀y∈n.succ,y∈g.nodes.map (·.name))(mC:g.nodes.length<=50):
  ∃bn r,nb pp w V 1 (G.io 8) [.ref g.b] [] ph bn r/\sB G.TS G.NI g bn/\PY g.nodes r:=by
 have D:=G.m 8;have B:ur G g g.nodes.length ph:=⟨S.dict,S.node,S.names,j,mC⟩;have d:bC g ph.length [] [] ph (ph++[.list [],.list [],.set [],.dict [] none]):=by
  refine⟨il _ _,by simp,?_,?_,?_,(λ x N=>by cases N),by simp,by simp,rfl⟩
  .rw[fF (dW ..)];simp
  .rw[fF (dW ..)];simp
  .rw[fF (dW ..)];simp[bL]
 have J:([]:List Str).length+fb (λ _=>1) g.nodes []<=g.nodes.length:=by
  unfold fb;have:∀l:List Nd,(l.map λ n=>if n.name∈([]:List Str) then 0 else 1).sum=l.length:=λ l=>by
   induction l with
   |nil=>rfl
   |cons a l c=>rw[aL,lZ,c,cN,if_neg (by simp)];exact iG ..
  rw[this]
  simp
 have start:∀A L H bv f,XJ pp w V A (callEnvC (G.un 8) L (G.io 8)) [gl (ay (WP 8)) 5,gl (ay (WP 8)) 6] ⟨FS ph.length g.d,ph++[.list [],.list [],.set [],.dict [] none],H⟩ bv f->XJ pp w V A (callEnvC (G.un 8) L (G.io 8)) (ay (WP 8)) ⟨[("self",.ref g.b)],ph,H⟩ bv f:=λ A L H bv f h=>by
  have K:=D.mt (L:=L);have E:=XJ.pre (st:=⟨[("node2stacki",.ref (ph.length+3)),("seen",.ref (ph.length+2)),("itstack",.ref (ph.length+1)),("stack",.ref ph.length),("n2i",.ref g.d),("self",.ref g.b)],ph++[.list [],.list [],.set [],.dict [] none],H⟩) h (aw.cons rfl (aw.cons rfl (aw.cons rfl (aw.cons rfl (aw.cons rfl .nil)))));refine XJ.cons (SJ.assign K (.inl (D.kind rfl)) (EJ.attr (EJ.loc rfl (D.kind rfl) K) (u8.fld (x:=.ref g.d) (st:=⟨_,ph,H⟩) G S.inst rfl (by decide) (λ m e=>by cases e)))) ?_;refine XJ.cons (SJ.assign K (.inl (D.kind rfl)) (EJ.wX am.nil (by rw[ak];simp))) ?_;refine XJ.cons (SJ.assign K (.inl (D.kind rfl)) (EJ.val (.ref (ph.length+1)) (EJ.ph (ph++[.list [],.list []]) (EJ.wX am.nil (by rw[ak];simp)) (by simp)) (by simp))) ?_;refine XJ.cons (SJ.assign K (.inl (D.kind rfl)) (EJ.val (.ref (ph.length+2)) (EJ.ph (ph++[.list [],.list [],.set []]) (EJ.fk (EJ.builtin G.toTop1 K (λ _ _=>.typ _) (D.kind rfl)) am.nil ds.Xy) (by simp)) (by simp))) ?_;have e4:EJ pp w V A (callEnvC (G.un 8) L (G.io 8)) (.Dict [] [] (KT (gl (ay (WP 8)) 4) 0).pos) ⟨[("seen",.ref (ph.length+2)),("itstack",.ref (ph.length+1)),("stack",.ref ph.length),("n2i",.ref g.d),("self",.ref g.b)],ph++[.list [],.list [],.set []],H⟩ ⟨[("seen",.ref (ph.length+2)),("itstack",.ref (ph.length+1)),("stack",.ref ph.length),("n2i",.ref g.d),("self",.ref g.b)],ph++[.list [],.list [],.set [],.dict [] none],H⟩ (.ref (ph.length+3)):=
   EJ.val _ (EJ.mQ _ EJ.VE (by simp)) (by simp)
  exact XJ.cons (SJ.assign K (.inl (D.kind rfl)) e4) E
 have Fy:∀{dL seen bn},bC g ph.length dL seen ph bn->sB G.TS G.NI g bn:=λ F=>S.keep F.keep
 have qp:(g.tab.map (·.1))=g.nodes.map (·.name):=by unfold Gr.tab;rw[bz];rfl
 have O:(ph++[.list [],.list [],.set [],.dict [] none])[g.d]? = some (.dict g.tab (some g.nodes.length)):=il _ _ _ _ S.dict
 rcases Qi G B (g.nodes.map (·.name)) [] [] _ d trivial (λ z=>Iff.rfl) J (λ x N=>N) with⟨l,Da,T,I,⟨Tm,eK,Q⟩,W⟩|⟨Da,rp,nW,Y,Z,ja,kM,rd,W⟩
 .refine⟨Da,.lst l,nb.of_body (loc:=[("self",.ref g.b)]) (fl:=.ret (.lst l)) (ln:=[]) G.T D.fn (re.p1 λ u=>D.binds λ _=>rfl) (D.locs ["self"] (by decide) rfl) ?_,Fy Q,.inr ⟨l,T,rfl,I⟩⟩
  .intro A L H R C;have K:=D.mt (L:=L);have M:=W A L H R.handled C;rw[<-qp] at M;exact start A L H _ _ (XJ.ret (SJ.for R.handled (EJ.loc rfl (D.kind rfl) K) (rc.keys G.mods O) M))
 .refine⟨Da,.none,nb.of_body (loc:=[("self",.ref g.b)]) (fl:=.ret .none) (ln:=FS ph.length g.d) G.T D.fn (re.p1 λ u=>D.binds λ _=>rfl) (D.locs ["self"] (by decide) rfl) ?_,Fy Y,.inl ⟨rfl,nW,Z,λ n U=>(ja _).mp (rd _ (nr U))⟩⟩
  .intro A L H R C;have K:=D.mt (L:=L);have M:=W A L H R.handled C;rw[<-qp] at M;exact start A L H _ _ (XJ.cons (SJ.for R.handled (EJ.loc rfl (D.kind rfl) K) (rc.keys G.mods O) M) (XJ.ret (SJ.ret EJ.const_none)))
noncomputable def c5 (l:List Nd):List Str:=(l.filter λ n=>n.np==0).map (·.name)
noncomputable def uG (l:List Nd):List (Option PV):=l.map λ n=>if n.np==0 then some (.str n.name) else none
theorem Mx:∀l:List Nd,(uG l).filterMap id=(c5 l).map .str:=by
 intro C
 induction C with
 |nil=>
  exact rfl
 |cons n l B=>
  have B:=B;unfold uG c5 at B ⊢;rw[aL,List.filter_cons]
  by_cases h:(n.np==0)=true
  .rw[if_pos h,if_pos h,aL,aL,List.filterMap_cons];simp only[id];rw[<-B]
  .rw[if_neg h,if_neg h,List.filterMap_cons];exact B
section
variable {TS NI:Addr}{g:Gr}{ph:List PO}
theorem sB.WA (S:sB TS NI g ph)(Z:g.ready=none)(l:List Str):sB TS NI {g with ready:=some (ph.length,l)} ((ph++[PO.list (l.map .str)]).set g.b (.inst TS ({g with ready:=some (ph.length,l)}:Gr).fields)):=by
 apply bd;intro U;obtain⟨L,O,l3,Q⟩:x04:=S.lt;obtain⟨D,N,H,J,M,I⟩:x1303:=S.role;apply U;have B:∀j,j<ph.length->j≠g.b->((ph++[PO.list (l.map .str)]).set g.b (.inst TS ({g with ready:=some (ph.length,l)}:Gr).fields))[j]? = ph[j]?:=λ j T Y=>by
  rw[bc Y,cm T]
 refine⟨pO (o':=.inst TS g.fields) (by rw[cm L];exact S.inst),?_,λ m C=>?_,λ r R e=>?_,⟨λ j=>if j=ph.length then .ready else D j,λ i G=>?_,?_,?_,λ m C=>?_,λ r R e=>?_⟩,S.names,λ i G=>(B i (S.vE G) λ e=>by have:=N i G;rw[e,H] at this;cases this).trans (S.low i G)⟩
 .rw[B g.d O (λ e=>by rw[e,H] at J;cases J)];exact S.dict
 .rw[B m.ix (l3 m C).1 (λ e=>by have:=(M m C).1;rw[e,H] at this;cases this),B m.lx (l3 m C).2 (λ e=>by have:=(M m C).2;rw[e,H] at this;cases this)];exact S.node m C
 .cases e;rw[bc (eF L)];simp
 .have:=S.vE G;show(if i=ph.length then _ else D i)=_;rw[if_neg (aS this)];exact N i G
 .show(if g.b=ph.length then _ else D g.b)=_;rw[if_neg (aS L)];exact H
 .show(if g.d=ph.length then _ else D g.d)=_;rw[if_neg (aS O)];exact J
 .have:=l3 m C;show(if m.ix=ph.length then _ else D m.ix)=_/\(if m.lx=ph.length then _ else D m.lx)=_;rw[if_neg (aS this.1),if_neg (aS this.2)];exact M m C
 .cases e;show(if ph.length=ph.length then xO.ready else _)=_
  rw[if_pos rfl]
end
theorem EJ.WE (h:EJ pg w V A ew v st al x):EJ pg w V A ew (.JoinedStr [v] pos) st al x:=λ I B s Q E k q=>wpAny_JoinedStr_one (h _ _ _ _ _ k q)
theorem Ie {ph:List PO}{g:Gr}(G:Top2 w V mg mb)(S:sB G.TS G.NI g ph)(T:g.ready=none)(mC:g.nodes.length<=50)(A:aD)(L:Addr)(fs:List (Addr×Data))(R:A.handled=none):
  SJ pp w V A (callEnvC (G.un 3) L (G.io 3)) (gl (ay (WP 3)) 1) ⟨[("self",.ref g.b)],ph,fs⟩ ⟨[("self",.ref g.b)],(ph++[PO.list ((c5 g.nodes).map .str)]).set g.b (.inst G.TS ({g with ready:=some (ph.length,c5 g.nodes)}:Gr).fields),fs⟩ .next:=by
 have D:=G.m 3;have U:=D.mt (L:=L);rw[D.gz];have K:=D.hK (L:=L);generalize At:G.un 3=fd at K ⊢;generalize jX:G.io 3=f at K ⊢;have cH:(ph++[PO.list ((c5 g.nodes).map .str)])[g.b]? = some (.inst G.TS g.fields):=il _ _ _ _ S.inst;have de:bZ pp w V A (callEnvC (gt fd (WP 3)) L f) (.ref g.b) "_ready_nodes" (.ref ph.length) ⟨[("self",.ref g.b)],ph++[PO.list ((c5 g.nodes).map .str)],fs⟩ ⟨[("self",.ref g.b)],(ph++[PO.list ((c5 g.nodes).map .str)]).set g.b (.inst G.TS ({g with ready:=some (ph.length,c5 g.nodes)}:Gr).fields),fs⟩:=
  bZ.inst (st:=⟨[("self",.ref g.b)],ph++[PO.list ((c5 g.nodes).map .str)],fs⟩) G.Rs G.jP G.kB cH (G.iT "_ready_nodes" (by decide)) (by unfold Gr.fields;simp)
 refine SJ.jO (al:=⟨[("self",.ref g.b)],ph++[PO.list ((c5 g.nodes).map .str)],fs⟩) (EJ.Za (cl:=[]) (ys:=(c5 g.nodes).map .str) (ge:=[]) (ln:=[]) R (P3.of rfl rfl rfl rfl .nil .nil) (EJ.io (EJ.attr (EJ.loc rfl rfl K) (u8.fld (x:=.ref g.d) (st:=⟨[("self",.ref g.b)],ph,fs⟩) G S.inst rfl (by decide) (λ m e=>by cases e))) (on.dict_values G.mods S.dict) am.nil (ds.dict_values G.mods S.dict)) (rc.vals G.mods S.dict) ?_) (EJ.loc rfl rfl K) de;intro O d Y;refine wf.AH (uG g.nodes) (Mx _).symm (λ _=>il _ _ _ _ S.dict) (by unfold uG Gr.tab;simp) (λ j x r J iq=>?_) (by unfold Gr.tab;rw[ak];simp;exact ww mC rfl);unfold Gr.tab at J;unfold uG at iq;rw[bz,cM] at J;rw[cM] at iq;obtain⟨n,N,rfl⟩:=pA.mp J;rw[N] at iq;have iq:some (if (n.np==0)=true then some (PV.str n.name) else none)=some r:=iq;obtain rfl:=Option.some.inj iq;have wc:=eX N;have eO:∀B,(ph++[PO.list B])[n.ix]? = some (n.slot G.NI):=λ B=>il _ _ _ _ (S.node n wc).1
 have H:=K.comp (scope:={kind:=e8,names:=[(".0",NameKind.local),("i",NameKind.local)],isGenerator:=false,isCoroutine:=false}) (cl:=[]) (C:=O) rfl
 cases M:(n.np==0) with
 |false=>
  exact Fr.no λ B=>⟨_,AJ.name H (.inl rfl),b9.one (TJ.weak (l:=[]) (M▸TJ.li (EJ.attr (EJ.loc rfl rfl H) (u8.slots G.Rs G.dp G.s1 (eO B) rfl (λ m e=>by cases e))) EJ.ci CJ.eq_int) aw.nil)⟩
 |true=>
  exact Fr.yes λ B=>⟨_,_,AJ.name H (.inl rfl),b9.one (M▸TJ.li (EJ.attr (EJ.loc rfl rfl H) (u8.slots G.Rs G.dp G.s1 (eO B) rfl (λ m e=>by cases e))) EJ.ci CJ.eq_int),EJ.weak (EJ.attr (EJ.loc rfl rfl H) (u8.slots G.Rs G.dp G.s0 (eO B) rfl (λ m e=>by cases e))) aw.nil⟩
theorem QZ {ph:List PO}{g:Gr}(G:Top2 w V mg mb)(S:sB G.TS G.NI g ph)(M:g.ready=none)(mC:g.nodes.length<=50)(Q:∀n∈g.nodes,∀y∈n.succ,y∈g.nodes.map (·.name)):
  ∃bn,sB G.TS G.NI {g with ready:=some (ph.length,c5 g.nodes)} bn /\
   ((nb pp w V 2 (G.io 3) [.ref g.b] [] ph bn .none/\∃J,eU (UV g.nodes) J/\∀n∈g.nodes,n.name∈J)\/(br pp w V 2 (G.io 3) [.ref g.b] [] ph bn (.ref G.CE)/\∃C,oZ (UV g.nodes) C)):=by
 have D:=G.m 3;have S1:=S.WA M (c5 g.nodes);apply bd;intro I;obtain⟨Da,r,U,S2,Aw⟩:=VV G S1 Q mC;obtain⟨E,KB,cy⟩:=(G.m 8).fn.at_;apply I;have eB:(Gr.fields g).lookup ("_ready_nodes" : Str)=some PV.none:=by show some g.dS=_;unfold Gr.dS;rw[M]
 refine⟨Da,S2,?_⟩;have H:∀A L B,wn A 1->Ctx A (callEnvC (G.un 3) L (G.io 3)) B->∀(P:Prop),(SJ pp w V A (callEnvC (G.un 3) L (G.io 3)) (gl (ay (WP 3)) 0) ⟨[("self",.ref g.b)],ph,B⟩ ⟨[("self",.ref g.b)],ph,B⟩ .next ->
   SJ pp w V A (callEnvC (G.un 3) L (G.io 3)) (gl (ay (WP 3)) 2) ⟨[("self",.ref g.b)],(ph++[PO.list ((c5 g.nodes).map .str)]).set g.b (.inst G.TS ({g with ready:=some (ph.length,c5 g.nodes)}:Gr).fields),B⟩ ⟨[("cycle",r),("self",.ref g.b)],Da,B⟩ .next->P)->P:=λ A L B R C P h=>by
  have K:=D.mt (L:=L);have ff:u8 pp w V A (callEnvC (G.un 3) L (G.io 3)) (.ref g.b) "_ready_nodes" ⟨[("self",.ref g.b)],ph,B⟩ .none:=u8.fld (st:=⟨_,ph,B⟩) G S.inst eB (by decide) (λ m e=>by cases e);refine h (SJ.iff (b:=false) (TJ.li (EJ.attr (EJ.loc rfl (D.kind rfl) K) ff) EJ.const_none CJ.isNot_none) XJ.nil) ?_;exact SJ.assign K (.inl (D.kind rfl)) (EJ.fy (EJ.loc rfl (D.kind rfl) K) (cW.ts G 8 rfl S1.inst rfl) am.nil KB cy U R C.cw)
 rcases Aw with⟨rfl,zV⟩|⟨l,T,rfl,Y⟩
 .refine .inl ⟨nb.of_body (loc:=[("self",.ref g.b)]) (fl:=.next) (ln:=[]) G.T D.fn (re.p1 λ u=>D.binds λ _=>rfl) (D.locs ["self"] (by decide) rfl) ?_,zV⟩
  .intro A L B R C;have K:=D.mt (L:=L);refine H A L B R C _ λ O N=>?_
   apply XJ.drop;exact XJ.cons O (XJ.cons (Ie G S M mC A L B R.handled) (XJ.cons N (XJ.cons (SJ.iff (b:=false) (TJ.val (EJ.loc rfl (D.kind rfl) K) VT.none) XJ.nil) XJ.nil)))
 .refine .inr ⟨br.of_body (loc:=[("self",.ref g.b)]) (ln:=[("cycle",.lst l),("self",.ref g.b)]) G.T D.fn (re.p1 λ u=>D.binds λ _=>rfl) (D.locs ["self"] (by decide) rfl) ?_,Y⟩
  .intro A L B R C;have K:=D.mt (L:=L);refine H A L B R C _ λ O N=>?_
   have Z:TJ pp w V A (callEnvC (G.un 3) L (G.io 3)) (KT (gl (ay (WP 3)) 3) 0) ⟨[("cycle",.lst l),("self",.ref g.b)],Da,B⟩ ⟨[("cycle",.lst l),("self",.ref g.b)],Da,B⟩ true:=by
    have e:(!l.isEmpty)=true:=by cases l with|nil=>exact absurd rfl T.1|cons _ _=>rfl
    have:=TJ.val (pg:=pp) (w:=w) (V:=V) (A:=A) (ew:=callEnvC (G.un 3) L (G.io 3)) (e:=(KT (gl (ay (WP 3)) 3) 0)) (EJ.loc (st:=⟨[("cycle",.lst l),("self",.ref g.b)],Da,B⟩) rfl (D.kind rfl) K) (VT.lst (xs:=l) (by have:=T.2;exact fK this rfl));rw[e] at this;exact this
   exact XX.cons O (XX.cons (Ie G S M mC A L B R.handled) (XX.cons N (XX.head (SX.iff (b:=true) Z (XX.head (SX.N3 G.T K G.wV R.handled (D.kind rfl) (am.cons (EJ.WE EJ.cs) (am.cons (EJ.loc rfl (D.kind rfl) K) am.nil)) (by rw[ak];simp)))))))
section
open PySem.Spec
noncomputable def cF (a b:Str):Bool:=!ltCps b.cps.toList a.cps.toList
theorem xa {a b:Str}:cF a b=true↔a.cps.toList<=b.cps.toList:=by
 unfold cF;rw[ltCps_eq];rw[Bool.not_eq_true',(decide_eq_false_iff_not)];exact List.not_lt
theorem H7 (a b c:Str)(C:cF a b=true)(B:cF b c=true):cF a c=true:=by
 rw[xa] at *;exact List.le_trans C B
theorem XO (a b:Str):(cF a b||cF b a)=true:=by
 rw[Bool.or_eq_true,(xa),(xa)];exact List.le_total _ _
theorem F7 {a b:Str}(h:a.cps.toList=b.cps.toList):a=b:=by
 obtain⟨⟨x⟩⟩:=a;obtain⟨⟨y⟩⟩:=b;have h:x=y:=h;rw[h]
theorem OR {a b:Str}(B:cF a b=true)(C:cF b a=true):a=b:=by
 rw[xa] at *;exact F7 (List.le_antisymm B C)
theorem Vi:∀{l:List Str}{p:Str},risingS p l=true->(p::l).Pairwise (λ a b=>cF a b=true):=by
 intro G
 induction G with
 |nil=>
  intro p _
  simp
 |cons x r B=>
  intro p h;have h:(!ltCps x.cps.toList p.cps.toList&&risingS x r)=true:=h;rw[fG] at h;have B:=B h.2;rw[(rN)];refine⟨λ y C=>?_,B⟩;have D:cF p x=true:=h.1
  rcases aG.mp C with rfl|C
  .exact D
  .exact H7 _ _ _ D ((rN.mp B).1 y C)
theorem Uc:∀{l:List Str},sortedS l=true->l.Pairwise (λ a b=>cF a b=true)
 | [],_=>.nil
 |x::r,h=>Vi h
theorem AE:∀{l m:List Str},l.Perm m->l.Pairwise (λ a b=>cF a b=true)->m.Pairwise (λ a b=>cF a b=true)->l=m
 | [],m,h,_,_=>(List.nil_perm.mp h).symm
 |x::l,[],h,_,_=>absurd h.symm (by simp)
 |x::l,y::m,h,B,C=>by
  have e:x=y:=by
   have D:x∈y::m:=h.mem_iff.mp (aN ..);have G:y∈x::l:=h.mem_iff.mpr (aN ..)
   rcases aG.mp D with q|q
   .exact q
   .rcases aG.mp G with p|p
    .exact p.symm
    .exact OR ((rN.mp B).1 y p) ((rN.mp C).1 x q)
  subst e;rw[AE (List.Perm.cons_inv h) (rN.mp B).2 (rN.mp C).2]
noncomputable def bT (l:List Str):List Str:=l.mergeSort cF
theorem lz (l:List Str):(bT l).Perm l:=List.mergeSort_perm l cF
theorem yC (l:List Str):(bT l).Pairwise (λ a b=>cF a b=true):=List.pairwise_mergeSort H7 XO l
theorem Ip {l:List Str}:∀B:List Str,B.Perm l->sortedS B=true->B=bT l:=λ B h C=>AE (h.trans (lz l).symm) (Uc C) (yC l)
theorem XS {l m:List Str}(B:m.Perm l)(C:m.Pairwise (λ a b=>cF a b=true)):bT l=m:=AE ((lz l).trans B.symm) (yC l) C
theorem Wr {l m:List Str}(C:l.Nodup)(B:m.Nodup)(h:∀x,x∈l↔x∈m):l.Perm m:=by
 rw[(List.perm_iff_count)];intro a;have G:=List.nodup_iff_count.mp C a;have D:=List.nodup_iff_count.mp B a;have e1:0<l.count a↔a∈l:=List.count_pos_iff;have e2:0<m.count a↔a∈m:=List.count_pos_iff;have:=h a
 by_cases q:a∈l
 .have:=e1.mpr q;have:=e2.mpr ((h a).mp q);lia
 .have q2:a∉m:=λ z=>q ((h a).mpr z)
  rw[List.count_eq_zero.mpr q,List.count_eq_zero.mpr q2]
theorem ip {l m:List Str}(B:l.Nodup)(h:∀x∈l,x∈m):l.length<=m.length:=by
 induction l generalizing m with
 |nil=>simp
 |cons a l G=>
  rw[c8] at B;have D:=h a (aN ..);have:=G (m:=m.erase a) B.2 λ x C=>(List.mem_erase_of_ne (λ(e:x=a)=>B.1 (e▸C))).mpr (h x (aT _ C))
  rw[List.length_erase_of_mem D] at this;have:0<m.length:=List.length_pos_of_mem D;simp only[cN]
  lia
noncomputable def TT:List Str->List Str->List Str
 |_,[]=>[]
 |pre,x::r=>if x∈pre then TT (pre++[x]) r else x::TT (pre++[x]) r
noncomputable def ls:List Str->List Str->List (Option PV)
 |_,[]=>[]
 |pre,x::r=>(if !decide (x∈pre) then some (.str x) else none)::ls (pre++[x]) r
theorem DO:∀(pre l:List Str),(ls pre l).length=l.length
 |_,[]=>rfl
 |pre,x::r=>congrArg (· + 1) (DO _ r)
theorem ze:∀(pre l:List Str),(ls pre l).filterMap id=(TT pre l).map .str
 |_,[]=>rfl
 |pre,x::r=>by
  show List.filterMap id (ite _ _ _::ls _ r)=List.map _ (ite _ _ _)
  by_cases h:x∈pre
  .simp[h,ze]
  .simp[h,ze]
theorem DT:∀(pre l:List Str) (j:Nat),(ls pre l)[j]? = l[j]?.map λ x=>if !decide (x∈pre++l.take j) then some (.str x) else none
 |_,[],j=>by simp[ls]
 |pre,x::r,0=>by simp[ls]
 |pre,x::r,j+1=>by
  show(_::ls (pre++[x]) r)[j+1]? = _;rw[List.getElem?_cons_succ,DT (pre++[x]) r j,List.getElem?_cons_succ,List.take_succ_cons,eH]
  rfl
theorem uA:∀(pre l:List Str) (x:Str),x∈TT pre l↔x∈l/\x∉pre
 |_,[],x=>by simp[TT]
 |pre,y::r,x=>by
  show x∈ite _ _ _↔_
  by_cases h:y∈pre
  .rw[if_pos h,(uA),(aG),(be),(aO)]
   constructor
   .rintro ⟨a,b⟩;exact⟨.inr a,λ c=>b (.inl c)⟩
   .rintro ⟨a,b⟩
    have:x≠y:=λ e=>b (e▸h)
    exact⟨a.resolve_left this,λ c=>c.elim b this⟩
  .rw[if_neg h,(aG),(uA),(aG),(be),(aO)]
   constructor
   .rintro (a|⟨a,b⟩)
    .exact⟨.inl a,a▸h⟩
    .exact⟨.inr a,λ c=>b (.inl c)⟩
   .rintro ⟨a,b⟩
    by_cases e:x=y
    .exact .inl e
    .exact .inr ⟨a.resolve_left e,λ c=>c.elim b e⟩
theorem wb:∀(pre l:List Str),(TT pre l).Nodup
 |_,[]=>by simp[TT]
 |pre,y::r=>by
  show(ite _ _ _:List _).Nodup
  by_cases h:y∈pre
  .rw[if_pos h];exact wb _ _
  .rw[if_neg h,(c8)];exact⟨λ q=>((uA _ _ _).mp q).2 (by simp),wb _ _⟩
theorem tW:∀(pre l:List Str),(TT pre l).Sublist l
 |_,[]=>.slnil
 |pre,y::r=>by
  show(ite _ _ _:List _).Sublist _
  by_cases h:y∈pre
  .rw[if_pos h];exact(tW _ _).cons _
  .rw[if_neg h];exact(tW _ _).cons_cons _
end
section
open PySem.Spec
structure cr where
 oct:Int
 name:Str
 kt:List Str
noncomputable def cr.pv (r:cr):PV:=.lst [.int r.oct,.str r.name,.lst (r.kt.map .str)]
abbrev bW:=Str×Str
noncomputable def cr.GT (r:cr):List bW:=r.kt.map λ y=>(r.name,y)
noncomputable def GT (R:List cr):List bW:=R.flatMap cr.GT
noncomputable def AT (R:List cr):List Str:=R.map (·.name)++R.flatMap (·.kt)
noncomputable def SL (E:List bW)(D:List Str)(z:Str):Nat:=(E.filter λ e=>e.1==z && !decide (e.2∈D)).length
noncomputable def df (E:List bW)(y:Str):List Str:=(E.filter λ e=>e.2==y).map (·.1)
theorem oB {E:List bW}{D:List Str}{z:Str}:SL E D z=0↔∀e∈E,e.1=z->e.2∈D:=by
 unfold SL;rw[(List.length_eq_zero_iff),(List.filter_eq_nil_iff)]
 constructor
 .intro h e B C;have:=h e B
  simpa [C] using this
 .intro h e B
  by_cases q:e.1=z
  .simp[h e B q]
  .simp[q]
theorem sI {E:List bW}{x y:Str}:x∈df E y↔(x,y)∈E:=by
 unfold df;rw[(aI)]
 constructor
 .rintro ⟨e,B,rfl⟩
  rw[l9] at B;obtain⟨C,D⟩:x02:=B;obtain(⟨a,b⟩):=e;have:b=y:=beq_iff_eq.mp D;subst this;exact C
 .intro h;exact⟨(x,y),l9.mpr ⟨h,by simp⟩,rfl⟩
theorem Jr {E:List bW}{D:List Str}{a b z:Str}:SL ((a,b)::E) D z=(if a=z/\b∉D then 1 else 0)+SL E D z:=by
 unfold SL;rw[List.filter_cons]
 by_cases B:a=z
 .by_cases C:b∈D
  .simp[B,C]
  .simp[B,C];exact iG ..
 .simp[B]
theorem Ub {E:List bW}{a b x:Str}:df ((a,b)::E) x=if b=x then a::df E x else df E x:=by
 unfold df;rw[List.filter_cons]
 by_cases h:b=x
 .simp[h]
 .simp[h]
theorem DQ {D:List Str}{x:Str}(hx:x∉D)(z:Str):∀E:List bW,SL E D z=SL E (D++[x]) z+(df E x).count z:=by
 intro H
 induction H with
 |nil=>
  exact rfl
 |cons J E B=>
  obtain(⟨a,b⟩):=J;have B:=B;rw[Jr,Jr,Ub,B]
  by_cases G:b=x
  .subst G;rw[if_pos rfl,if_neg (λ q:a=z/\b∉D++[b]=>q.2 (by simp))]
   by_cases C:a=z
   .subst C;rw[if_pos ⟨rfl,hx⟩,List.count_cons_self];lia
   .rw[if_neg (λ q=>C q.1),List.count_cons_of_ne C];exact(Nat.add_assoc ..).symm
  .rw[if_neg G];have:(a=z/\b∉D++[x])↔(a=z/\b∉D):=by simp[G]
   simp only[this];exact(Nat.add_assoc ..).symm
theorem Ot {D D':List Str}(h:∀x,x∈D↔x∈D')(E:List bW)(z:Str):SL E D z=SL E D' z:=by
 unfold SL
 congr 1
 apply List.filter_congr;intro e _
 simp[h]
theorem Wn {E:List bW}{D:List Str}{x y z:Str}:SL (E++[(x,y)]) D z=SL E D z+if x=z/\y∉D then 1 else 0:=by
 unfold SL;rw[List.filter_append,aP]
 congr 1
 by_cases B:x=z
 .by_cases C:y∈D
  .simp[B,C]
  .simp[B,C]
 .simp[B]
structure GS (Nm:List Str)(E:List bW)(np:Str->Int)(l:List An):Prop where
 names:l.map (·.name)=Nm
 wv:Nm.Nodup
 at_:∀n∈l,n.np=np n.name/\n.succ=df E n.name
 ends:∀e∈E,e.1∈Nm/\e.2∈Nm
theorem GS.congr {np Gd}(h:GS Nm E np l)(e:∀z∈Nm,np z=Gd z):GS Nm E Gd l:=
 ⟨h.names,h.wv,λ n B=>⟨(h.at_ n B).1.trans (e _ (h.names▸aI.mpr ⟨n,B,rfl⟩)),(h.at_ n B).2⟩,h.ends⟩
theorem GS.cC {np}(h:GS Nm E np l)(x:Str)(f:Int->Int):GS Nm E (λ z=>if z=x then f (np z) else np z) (cC x f l):=by
 refine⟨Ys.trans h.names,h.wv,λ n C=>?_,h.ends⟩;obtain⟨m,B,rfl⟩:=aI.mp C
 by_cases e:m.name=x
 .simp only[if_pos e];exact⟨by rw[(h.at_ m B).1],(h.at_ m B).2⟩
 .simp only[if_neg e];exact h.at_ m B
theorem GS.jD {Nm:List Str}{E:List bW}{np:Str->Int}:∀{l:List An}{x:Str},(∀n∈l,n.np=np n.name)->x∈l.map (·.name)->jD x l=np x:=by
 intro C
 induction C with
 |nil=>
  intro x _ B;cases B
 |cons n l D=>
  intro x h B;show ite _ _ _=_
  by_cases e:n.name=x
  .rw[if_pos e,h n (aN ..),e]
  .rw[if_neg e];refine D (λ m G=>h m (aT _ G)) ?_;rw[aL,aG] at B;exact B.resolve_left λ q=>e q.symm
theorem GS.np {np}(h:GS Nm E np l){x:Str}(hx:x∈Nm):Mine.jD x l=np x:=GS.jD (Nm:=Nm) (E:=E) (λ n B=>(h.at_ n B).1) (h.names▸hx)
noncomputable def jy (x:Str)(l:List Str):List Str:=if x∈l then l else l++[x]
set_option tactic.hygienic true in
theorem mZ {x z:Str}{l:List Str}:z∈jy x l↔z∈l\/z=x:=by
 unfold jy
 split
 .rename_i h
  exact⟨.inl,λ q=>q.elim id λ e=>e▸h⟩
 .simp
theorem GS.eD {np}(h:GS Nm E np l){x:Str}(hx:x∉Nm->np x=0):GS (jy x Nm) E np (eD x l):=by
 have mE:l.any (λ n=>n.name==x)=decide (x∈Nm):=by
  rw[(iE),(pB),(decide_eq_true_iff),<-h.names,(aI)]
  constructor
  .rintro ⟨n,B,e⟩;exact⟨n,B,beq_iff_eq.mp e⟩
  .rintro ⟨n,B,e⟩;exact⟨n,B,beq_iff_eq.mpr e⟩
 unfold Mine.eD jy;rw[mE]
 by_cases q:x∈Nm
 .rw[if_pos (decide_eq_true q),if_pos q];exact h
 .rw[if_neg (show ¬decide (x∈Nm)=true from λ z=>q (of_decide_eq_true z)),if_neg q];refine⟨by rw[aY,h.names];rfl,?_,λ n B=>?_,λ e D=>⟨iI _ (h.ends e D).1,iI _ (h.ends e D).2⟩⟩
  .rw[(jm)];refine⟨h.wv,by simp,λ a H b C e=>?_⟩
   simp at C
   subst C e;exact q H
  .rcases be.mp B with B|B
   .exact h.at_ n B
   .obtain rfl:=aO.mp B;refine⟨(hx q).symm,?_⟩
    symm
    cases G:df E x with
    |nil=>rfl
    |cons a r=>
     have:(a,x)∈E:=sI.mp (by rw[G];exact aN ..);exact absurd (h.ends _ this).2 q
theorem GS.kC {np}(h:GS Nm E np l){x y:Str}(hx:x∈Nm)(G:y∈Nm):GS Nm (E++[(x,y)]) np (kC y x l):=by
 refine⟨?_,h.wv,λ n D=>?_,λ e B=>?_⟩
 .rw[<-h.names];unfold Mine.kC;rw[bz];apply pH;intro m _;show(if m.name=y then ({m with succ:=m.succ++[x]}:An) else m).name=m.name
  split<;>rfl
 .obtain⟨m,C,rfl⟩:=aI.mp D;unfold df;rw[List.filter_append,aY]
  by_cases e:m.name=y
  .simp only[if_pos e];refine⟨(h.at_ m C).1,?_⟩;rw[(h.at_ m C).2];unfold df
   simp[e]
  .simp only[if_neg e];refine⟨(h.at_ m C).1,?_⟩;rw[(h.at_ m C).2];unfold df
   simp[show ¬y=m.name from λ q=>e q.symm]
 .rcases be.mp B with B|B
  .exact h.ends e B
  .obtain rfl:=aO.mp B;exact⟨hx,G⟩
def dU (Nm:List Str)(E:List bW)(l:List An):Prop:=GS Nm E (λ z=>(SL E [] z:Nat)) l
theorem dU.nil:dU [] [] []:=⟨rfl,by simp,(λ n B=>by cases B),(λ e C=>by cases C)⟩
theorem dU.out (h:dU Nm E l){x:Str}(hx:x∉Nm):SL E [] x=0:=oB.mpr λ e B q=>absurd (q▸(h.ends e B).1) hx
theorem dU.Ht (h:dU Nm E l)(x:Str):dU (jy x Nm) E (eD x l):=GS.eD h λ B=>by rw[h.out B];rfl
theorem dU.RT (h:dU Nm E l)(x y:Str):dU (jy y (jy x Nm)) (E++[(x,y)]) (kC y x (eD y (cC x (· + 1) (eD x l)))):=by
 have C:=h.Ht x;have G:=GS.cC C x (· + 1);have B:x∈jy x Nm:=mZ.mpr (.inr rfl);have H:=GS.eD (x:=y) G λ D=>by
  have e:y≠x:=λ e=>D (e▸B)
  show(if y=x then _ else _)=_;rw[if_neg e,C.out D];rfl
 refine(GS.kC H (mZ.mpr (.inl B)) (mZ.mpr (.inr rfl))).congr λ z _=>?_
 show(if z=x then ((SL E [] z:Nat):Int)+1 else ((SL E [] z:Nat):Int))=((SL (E++[(x,y)]) [] z:Nat):Int);rw[Wn]
 by_cases e:z=x
 .rw[if_pos e,if_pos ⟨e.symm,by simp⟩];rfl
 .rw[if_neg e,if_neg (λ q=>e q.1.symm)];rfl
noncomputable def dT (E:List bW)(D O:List Str)(z:Str):Int:=if z∈D then -2 else if z∈O then -1 else (SL E D z:Nat)
structure dm (Nm:List Str)(E:List bW)(D O:List Str)(l:List An)(ii:List Str):Prop where
 gs:GS Nm E (dT E D O) l
 wv:(D++O).Nodup
 sub:∀x∈D++O,x∈Nm
 rj:∀e∈E,e.1∈D++O->e.2∈D
 rf:ii.Nodup
 ii:∀z,z∈ii↔z∈Nm/\dT E D O z=0
set_option tactic.hygienic true in
theorem mU {E:List bW}{D O:List Str}{z:Str}:dT E D O z=0↔z∉D/\z∉O/\SL E D z=0:=by
 unfold dT
 split
 .rename_i h;simp[h]
 .rename_i h
  split
  .rename_i B;simp[B]
  .rename_i B
   constructor
   .intro q;exact⟨h,B,by lia⟩
   .rintro ⟨_,_,q⟩;lia
theorem dm.perm {ii}(M:dm Nm E D O l ii)(h:D'.Perm D):dm Nm E D' O l ii:=by
 have B:∀x,x∈D'↔x∈D:=λ x=>h.mem_iff
 have e:∀z,dT E D O z=dT E D' O z:=λ z=>by
  unfold dT;rw[(Ot (D:=D') (D':=D) B)];simp only[B]
 refine⟨M.gs.congr λ z _=>e z,((h.append_right O).nodup_iff).mpr M.wv,λ x C=>M.sub x ((h.append_right O).mem_iff.mp C),λ e G q=>(B _).mpr (M.rj e G ((h.append_right O).mem_iff.mp q)),M.rf,λ z=>?_⟩;rw[<-e];exact M.ii z
theorem Tg:∀{G:List Str}{np l},GS Nm E np l->GS Nm E (λ z=>if z∈G then -1 else np z) (qJ G l):=by
 intro B
 induction B with
 |nil=>
  intro np l h
  simpa [qJ] using h
 |cons x G C=>
  intro np l h;have:=C (h.cC x (λ _=>-1));refine this.congr λ z _=>?_
  by_cases q:z∈G
  .simp[q]
  .by_cases e:z=x
   .simp[e]
   .simp[q,e]
theorem dm.out {ii}(M:dm Nm E D [] l ii):dm Nm E D ii (qJ ii l) []:=by
 have B:∀z∈ii,z∈Nm/\z∉D/\SL E D z=0:=λ z q=>let r:=(M.ii z).mp q;⟨r.1,(mU.mp r.2).1,(mU.mp r.2).2.2⟩
 have gZ:(D++ii).Nodup:=jm.mpr ⟨by simpa using M.wv,M.rf,λ a H b G e=>(B b G).2.1 (e▸H)⟩;refine⟨(Tg M.gs).congr λ z _=>?_,gZ,λ x J=>?_,λ e C q=>?_,by simp,λ z=>?_⟩
 .show(if z∈ii then (-1:Int) else dT E D [] z)=dT E D ii z;unfold dT
  by_cases q:z∈ii
  .rw[if_pos q,if_neg (B z q).2.1,if_pos q]
  .rw[if_neg q]
   simp[q]
 .rcases be.mp J with q|q
  .exact M.sub x (by simpa using q)
  .exact(B x q).1
 .rcases be.mp q with q|q
  .exact M.rj e C (by simpa using q)
  .exact oB.mp (B _ q).2.2 e C rfl
 .constructor
  .intro q;cases q
  .rintro ⟨L,q2⟩
   have:=mU.mp q2;exact absurd ((M.ii z).mpr ⟨L,mU.mpr ⟨this.1,by simp,this.2.2⟩⟩) this.2.1
set_option tactic.hygienic true in
theorem Ws {D O:List Str}:∀(F:List Str) (l:List An) (ii:List Str),
  GS Nm E (λ z=>if z∈D then -2 else if z∈O then -1 else ((SL E D z+F.count z:Nat):Int)) l->ii.Nodup->(∀s∈F,s∈Nm/\s∉D/\s∉O) ->
  (∀z,z∈ii↔z∈Nm/\z∉D/\z∉O/\SL E D z+F.count z=0) ->
  GS Nm E (dT E D O) (F.foldl fY (l,ii)).1/\(F.foldl fY (l,ii)).2.Nodup/\∀z,z∈(F.foldl fY (l,ii)).2↔z∈Nm/\dT E D O z=0:=by
 intro R
 induction R with
 |nil=>
  intro l ii h C J B;refine⟨h.congr λ z _=>?_,C,λ z=>?_⟩
  .unfold dT;simp
  .rw[(mU)];simpa using B z
 |cons s F T=>
  intro l ii h C J B;obtain⟨N,G,H⟩:x03:=J s (aN ..);have xo:jD s l=((SL E D s+F.count s:Nat):Int)+1:=by
   rw[h.np N];rw[if_neg G,if_neg H,List.count_cons_self];exact rfl
  have Y:=h.cC s (· - 1);rw[List.foldl_cons];unfold fY;simp only;refine T _ _ (Y.congr λ z M=>?_) ?_ (λ z M=>J z (aT _ M)) λ z=>?_
  .by_cases e:z=s
   .subst e;rw[if_pos rfl,if_neg G,if_neg H,if_neg G,if_neg H,List.count_cons_self]
    lia
   .rw[if_neg e,List.count_cons_of_ne (λ q=>e q.symm)]
  .split
   .rename_i q
    rw[(jm)];refine⟨C,by simp,λ a U b L e=>?_⟩
    simp at L
    subst L e;have:=((B a).mp U).2.2.2;rw[List.count_cons_self] at this
    lia
   .exact C
  .by_cases e:z=s
   .subst e;rw[xo]
    by_cases q:SL E D z+F.count z=0
    .rw[if_pos (by lia)]
     simp[N,G,H,q]
    .rw[if_neg (by lia),(B z),List.count_cons_self];exact⟨λ⟨_,_,_,a⟩=>by lia,λ⟨_,_,_,a⟩=>absurd a q⟩
   .have:(z∈if jD s l - 1=0 then ii++[s] else ii)↔z∈ii:=by
     split
     .simp[e]
     .rfl
    rw[(this),(B z),List.count_cons_of_ne (λ q=>e q.symm)]
theorem dm.done {ii}(M:dm Nm E D (x::O) l ii):dm Nm E (D++[x]) O (vK x (df E x) (l,ii)).1 (vK x (df E x) (l,ii)).2:=by
 have gZ:((D++[x])++O).Nodup:=by simpa using M.wv
 have AG:x∉D:=λ q=>(jm.mp M.wv).2.2 x q x (aN ..) rfl
 have G:x∉O:=(c8.mp (jm.mp M.wv).2.1).1;have H:∀s∈df E x,s∈Nm/\s∉D++[x]/\s∉O:=λ s q=>by
  have q:=sI.mp q;have C:s∉D++x::O:=λ z=>AG (M.rj _ q z)
  refine⟨(M.gs.ends _ q).1,λ z=>C ?_,λ z=>C ?_⟩
  .simp at z ⊢;exact z.elim .inl λ q=>.inr (.inl q)
  .simp[z]
 have J:=M.gs.cC x (λ _=>-2);have B:=Ws (Nm:=Nm) (E:=E) (D:=D++[x]) (O:=O) (df E x) (cC x (λ _=>-2) l) ii (J.congr λ z _=>?_) M.rf H λ z=>?_
 .exact⟨B.1,gZ,λ z L=>M.sub z (by simpa using L),λ e N q=>iI _ (M.rj e N (by simpa using q)),B.2.1,B.2.2⟩
 .show(if z=x then (-2:Int) else dT E D (x::O) z)=_;unfold dT
  by_cases e:z=x
  .simp[e]
  .rw[(DQ AG)]
   simp[e]
 .rw[(M.ii z),(mU),(DQ AG)]
  constructor
  .rintro ⟨a,b,c,d⟩
   simp at c
   exact⟨a,by simp[b,c.1],c.2,d⟩
  .rintro ⟨a,b,c,d⟩
   simp at b
   exact⟨a,b.1,by simp[b.2,c],d⟩
end
section
open PySem.Spec
noncomputable def grp (Nm:List Str)(E:List bW)(D:List Str):List Str:=Nm.filter λ z=>!decide (z∈D)&&SL E D z==0
inductive bK (Nm:List Str)(E:List bW):List Str->List (List Str)->List Str->Prop
 |done {D}:grp Nm E D=[]->bK Nm E D [] D
 |step {D rs D'}:grp Nm E D≠[]->bK Nm E (D++grp Nm E D) rs D'->bK Nm E D (grp Nm E D::rs) D'
structure eR (Nm:List Str)(E:List bW)(D:List Str):Prop where
 wv:D.Nodup
 sub:∀x∈D,x∈Nm
 rj:∀e∈E,e.1∈D->e.2∈D
theorem mX:z∈grp Nm E D↔z∈Nm/\z∉D/\SL E D z=0:=by
 unfold grp;rw[(l9)]
 simp
theorem Ii (h:Nm.Nodup):(grp Nm E D).Nodup:=List.Nodup.sublist List.filter_sublist h
theorem eR.nil:eR Nm E []:=⟨by simp,(λ x B=>by cases B),(λ e _ B=>by cases B)⟩
theorem eR.step (h:eR Nm E D)(C:Nm.Nodup):eR Nm E (D++grp Nm E D):=by
 refine⟨jm.mpr ⟨h.wv,Ii C,λ a H b J e=>(mX.mp J).2.1 (e▸H)⟩,λ x G=>?_,λ e B q=>?_⟩
 .rcases be.mp G with q|q
  .exact h.sub x q
  .exact(mX.mp q).1
 .rcases be.mp q with q|q
  .exact iI _ (h.rj e B q)
  .exact iI _ (oB.mp (mX.mp q).2.2 e B rfl)
theorem bK.ex (C:Nm.Nodup):∀(k:Nat) (D:List Str),eR Nm E D->Nm.length<=D.length+k->∃rs D',bK Nm E D rs D'
 |k,D,h,H=>by
  by_cases e:grp Nm E D=[]
  .exact⟨_,_,.done e⟩
  .have B:=h.step C;have G:=ip B.wv B.sub;have:0<(grp Nm E D).length:=List.length_pos_iff.mpr e;rw[aP] at G
   cases k with
   |zero=>lia
   |succ k=>
    obtain⟨rs,D',r⟩:x21:=bK.ex C k (D++grp Nm E D) B (by rw[aP];lia);exact⟨_,_,.step e r⟩
theorem bK.ok (B:Nm.Nodup)(r:bK Nm E D rs D')(h:eR Nm E D):eR Nm E D':=by
 induction r with
 |done _=>exact h
 |step _ _ C=>exact C (h.step B)
theorem bK.end (r:bK Nm E D rs D'):grp Nm E D'=[]:=by
 induction r with
 |done h=>exact h
 |step _ _ B=>exact B
theorem bK.len (r:bK Nm E D rs D'):rs.length+D.length<=D'.length:=by
 induction r with
 |done h=>simp
 | @step D rs D' h _ B=>
  have:0<(grp Nm E D).length:=List.length_pos_iff.mpr h;rw[aP] at B;rw[cN]
  lia
theorem OZ {sc:Str->List Str}:∀{r:List Str},eU sc r->∀{y x},y∈r->x∈sc y->x∈r:=by
 intro D
 induction D with
 |nil=>
  intro _ y x B _;cases B
 |cons z r G=>
  intro Bb y x B C;obtain⟨H,J⟩:x02:=Bb
  rcases aG.mp B with rfl|B
  .exact aT _ (H x C)
  .exact aT _ (G J B C)
theorem Pt {sc:Str->List Str}{S:Str->Prop}(H:∀z,S z->∃y,S y/\z∈sc y):∀{C:List Str},eU sc C->(∀z,S z->z∈C)->∀z,¬S z:=by
 intro G
 induction G with
 |nil=>
  intro _ h z B;cases h z B
 |cons x r J=>
  intro Bb h z B;obtain⟨L,D⟩:x02:=Bb;refine J D (λ z B=>?_) z B
  rcases aG.mp (h z B) with rfl|q
  .obtain⟨y,M,q⟩:=H z B
   rcases aG.mp (h y M) with rfl|p
   .exact L _ q
   .exact OZ D p q
  .exact q
theorem Y5 {sc:Str->List Str}{B:List Str}(M:∀e∈E,e.1∈Nm/\e.2∈Nm)(G:∀e∈E,e.1∈sc e.2)(T:eU sc B)(L:∀z∈Nm,z∈B)(J:grp Nm E D=[]):∀z∈Nm,z∈D:=by
 intro z O
 by_cases q:z∈D
 .exact q
 .refine absurd (⟨O,q⟩:z∈Nm/\z∉D) (Pt (sc:=sc) (S:=λ z=>z∈Nm/\z∉D) (λ z h=>?_) T (λ z h=>L z h.1) z)
  by_cases c:SL E D z=0
  .have:=mX.mpr ⟨h.1,h.2,c⟩;rw[J] at this;cases this
  .have:∃e∈E,e.1=z/\e.2∉D:=by
    refine o8 λ N=>c (oB.mpr λ e C q=>o8 λ H=>N ⟨e,C,q,H⟩)
   obtain⟨e,C,rfl,H⟩:x13:=this;exact⟨e.2,⟨(M e C).2,H⟩,G e C⟩
theorem Ta {sc:Str->List Str}{C:List Str}(r:bK Nm E D rs D')(L:∀c∈C,∃p∈C,c∈sc p)(B:∀c p,p∈C->c∈sc p->(c,p)∈E)(h:∀c∈C,c∉D):∀c∈C,c∉D':=by
 induction r with
 |done _=>exact h
 | @step D rs D' _ _ J=>
  refine J λ c G q=>?_
  rcases be.mp q with q|q
  .exact h c G q
  .obtain⟨p,H,e⟩:=L c G;exact h p H (oB.mp (mX.mp q).2.2 _ (B c p H e) rfl)
theorem Nx {sc:Str->List Str}{B:List Str}(D:Nm.Nodup)(H:∀e∈E,e.1∈Nm/\e.2∈Nm)(r:bK Nm E [] rs D')(C:∀e∈E,e.1∈sc e.2)(T:eU sc B)(G:∀z∈Nm,z∈B):decide ((D'.length:Int)<(Nm.length:Int))=false:=by
 have:=ip D (Y5 H C T G r.end);rw[(decide_eq_false_iff_not)];lia
theorem W8 {sc:Str->List Str}(M:Nm.Nodup)(L:∀e∈E,e.1∈Nm/\e.2∈Nm)(r:bK Nm E [] rs D')(B:∀c p,c∈sc p->(c,p)∈E)(D:∃C,oZ sc C):decide ((D'.length:Int)<(Nm.length:Int))=true:=by
 obtain⟨C,N,D⟩:=D;have Uq:=Ta r D (λ c p _=>B c p) (λ c _ q=>by cases q);obtain⟨c,H⟩:=List.exists_mem_of_ne_nil C N;obtain⟨p,O,e⟩:=D c H;have J:=r.ok M eR.nil;have gZ:(c::D').Nodup:=c8.mpr ⟨Uq c H,J.wv⟩;have:=ip (m:=Nm) gZ λ x G=>by
  rcases aG.mp G with rfl|G
  .exact(L _ (B _ p e)).1
  .exact J.sub x G
 rw[cN] at this;rw[(decide_eq_true_iff)];exact Int.ofNat_lt.mpr this
theorem JC {Ix ii}(M:dm Nm E D [] l ii)(G:Ix.Pairwise (λ a b=>cF a b=true))(B:Ix.Nodup)(C:∀z,z∈Ix↔z∈Nm):bT ii=grp Ix E D:=by
 refine XS (Wr (Ii B) M.rf λ z=>?_) (G.sublist List.filter_sublist);rw[(mX),(M.ii z),(mU),(C)]
 simp
theorem dm.first (B:dU Nm E l){ii:List Str}(G:ii=(l.filter λ n=>n.np==0).map (·.name)):dm Nm E [] [] l ii:=by
 refine⟨GS.congr B λ z _=>by unfold dT;simp,by simp,(λ x D=>by cases D),(λ e _ D=>by cases D),?_,λ z=>?_⟩
 .rw[G];have:=B.wv;rw[<-B.names] at this;exact List.Nodup.sublist (List.Sublist.map _ List.filter_sublist) this
 .rw[G,(aI),(mU)]
  constructor
  .rintro ⟨n,C,rfl⟩
   rw[l9] at C;have e:=(B.at_ n C.1).1;have:n.np=0:=beq_iff_eq.mp C.2;exact⟨B.names▸aI.mpr ⟨n,C.1,rfl⟩,by simp,by simp,by rw[this] at e;lia⟩
  .rintro ⟨a,_,_,b⟩
   rw[<-B.names] at a;obtain⟨n,C,rfl⟩:=aI.mp a;refine⟨n,l9.mpr ⟨C,?_⟩,rfl⟩;rw[(B.at_ n C).1];simp only[b];rfl
theorem Oz (l:List Nd):c5 l=((l.map Nd.an).filter λ n=>n.np==0).map (·.name):=by
 unfold c5;rw[List.filter_map,bz];rfl
theorem EH {g:Gr}(h:GS Nm E np g.abs){c p:Str}:c∈UV g.nodes p↔(c,p)∈E:=by
 have gZ:(g.nodes.map (·.name)).Nodup:=by rw[<-mf,h.names];exact h.wv
 by_cases q:p∈g.nodes.map (·.name)
 .obtain⟨n,C,rfl⟩:=aI.mp q;rw[AZ C gZ];have:=(h.at_ n.an (aI.mpr ⟨n,C,rfl⟩)).2;have this:n.succ=df E n.name:=this;rw[this,(sI)]
 .constructor
  .intro B;unfold UV at B;rw[List.find?_eq_none.mpr (λ n C e=>q (aI.mpr ⟨n,C,beq_iff_eq.mp e⟩))] at B;cases B
  .intro B;have:=(h.ends _ B).2;rw[<-h.names,mf] at this;exact absurd this q
end
theorem sB.first {TS NI:Addr}{base:List PO}:sB TS NI {b:=base.length,d:=base.length+1,nodes:=[],ready:=none,po:=0,fi:=0,base:=base} (base++[.inst TS ({b:=base.length,d:=base.length+1,nodes:=[],ready:=none,po:=0,fi:=0}:Gr).fields,.dict [] (some 0)]):=by
 refine⟨by simp;rfl,by simp[Gr.tab],(λ n B=>by cases B),(λ r l e=>by cases e),⟨λ j=>if j<base.length then .none else if j=base.length then .inst else .dict,λ i C=>if_pos C,by simp,by simp,(λ n B=>by cases B),(λ r l e=>by cases e)⟩,by simp,λ i C=>cm C⟩
theorem dU.len (B:dU Nm E (Gr.abs g))(C:∀z∈Nm,z∈U):g.nodes.length<=(U:List Str).length:=by
 have:=ip B.wv C;rw[<-B.names,mf,aE] at this;exact this
theorem GS.succ {np}(B:GS Nm E np (Gr.abs g)){n:Nd}(C:n∈g.nodes):n.succ=df E n.name:=(B.at_ n.an (aI.mpr ⟨n,C,rfl⟩)).2
theorem HO {E:List bW}{y:Str}:(df E y).length<=E.length:=by unfold df;rw[aE];exact List.length_filter_le _ _
noncomputable def zT:aC:=gl (ay (sA 52)) 1
noncomputable def G4:aC:=gl (bo zT) 1
noncomputable def eQ (b:Nat)(xL:List PV):List (Str×PV):=[("sorter",.ref b),("ring",.bool false),("rounds",.lst []),("records",.lst xL)]
theorem V1 {b:Nat}{xL:List PV}{x:Str}(G:Top2 w V mg mb)(U:List Str)(j:U.length<=20)(o:x∈U):
  ∀(ys:List Str) (g:Gr) (ph:List PO) (Nm:List Str) (E:List bW),sB G.TS G.NI g ph->g.b=b->g.ready=none->dU Nm E g.abs->x∈Nm->(∀z∈Nm,z∈U)->(∀y∈ys,y∈U)->E.length+ys.length<900 ->
   ∃bn H Ix,(∀A L fs,wn A 4->Ctx A (callEnvC (G.fd 52) L (G.fn 52)) fs->FJ pp w V A (callEnvC (G.fd 52) L (G.fn 52)) (λ _=>True) (jb G4) (bo G4) [] (ys.map .str) ⟨("name",.str x)::eQ b xL,ph,fs⟩ ⟨("name",.str x)::eQ b xL,bn,fs⟩ .next) /\
    sB G.TS G.NI H bn/\dU Ix (E++ys.map λ y=>(x,y)) H.abs/\(∀z,z∈Ix↔z∈Nm\/z∈ys)/\g.ig H:=by
 intro f
 induction f with
 |nil=>
  intro g ph Nm E S J M B N Y O Z;exact⟨ph,g,Nm,λ _ _ _ _ _=>FJ.done trivial XJ.nil,S,by simpa using B,λ z=>by simp,rfl⟩
 |cons y ys r=>
  intro g ph Nm E S J M B N Y O Z;have k:=B.len Y;apply bd;intro I;obtain⟨Db,T,p,S1,iR,Re,_⟩:x2402:=Tv (x:=x) (y:=y) G S M (fK (av k j) rfl) (λ n m=>by
   rw[GS.succ B m];have:=HO (E:=E) (y:=n.name)
   simp at Z
   lia)
  have c:=B.RT x y;rw[<-iR] at c;have FM:T.b=b:=by rw[Re];exact J
  have zn:T.ready=none:=by rw[Re];exact M
  have oz:∀z,z∈jy y (jy x Nm)↔z∈Nm\/z=y:=λ z=>by
   rw[(mZ),(mZ)]
   constructor
   .rintro ((a|a)|a)
    .exact .inl a
    .exact .inl (a▸N)
    .exact .inr a
   .rintro (a|a)
    .exact .inl (.inl a)
    .exact .inr a
  obtain⟨bn,H,Ix,sD,q,d,cQ,t9⟩:=r T Db _ _ S1 FM zn c ((oz x).mpr (.inl N)) (λ z Q=>((oz z).mp Q).elim (Y z) λ e=>e▸O y (aN ..)) (λ z Q=>O z (aT _ Q)) (by simp at Z ⊢;lia);apply I;refine⟨bn,H,Ix,λ A L fs R C=>?_,q,?_,λ z=>?_,?_⟩
  .have D:=G.d 52;have K:=D.mt (L:=L);apply bd;intro I;obtain⟨u,KB,cy⟩:=(G.m 2).fn.at_;apply I;subst J;refine FJ.next trivial (AJ.name K (.inl (D.kind rfl))) (XJ.sw (al:=⟨("need",.str y)::("name",.str x)::eQ g.b xL,Db,fs⟩) (XJ.cons (SJ.expr K (EJ.fy (bi:=⟨("need",.str y)::("name",.str x)::eQ g.b xL,ph,fs⟩) (EJ.loc rfl (D.kind rfl) K) (cW.ts G 2 rfl S.inst rfl) (am.cons (EJ.loc rfl (D.kind rfl) K) (am.cons (EJ.loc rfl (D.kind rfl) K) am.nil)) KB cy p R C.cw)) XJ.nil) (aw.cons rfl (aw.cons rfl (aw.cons rfl (aw.cons rfl (aw.cons rfl .nil)))))) (.inl rfl) (sD A L fs R C)
  .rw[eH] at d;exact d
  .rw[(cQ z),(oz z),(aG)]
   constructor
   .rintro ((a|a)|a)
    .exact .inl a
    .exact .inr (.inl a)
    .exact .inr (.inr a)
   .rintro (a|a|a)
    .exact .inl (.inl a)
    .exact .inl (.inr a)
    .exact .inr a
  .rw[Gr.ig] at Re t9 ⊢;rw[t9,Re]
theorem Xd {b:Nat}{xL:List PV}(G:Top2 w V mg mb)(U:List Str)(d:U.length<=20):
  ∀(R:List cr) (g:Gr) (ph:List PO) (Nm:List Str) (E:List bW),sB G.TS G.NI g ph->g.b=b->g.ready=none->dU Nm E g.abs->(∀z∈Nm,z∈U)->(∀y∈AT R,y∈U)->E.length+(GT R).length<900 ->
   ∃bn N Ix,(∀A L fs,wn A 4->Ctx A (callEnvC (G.fd 52) L (G.fn 52)) fs->FJ pp w V A (callEnvC (G.fd 52) L (G.fn 52)) (λ _=>True) (jb zT) (bo zT) [] (R.map cr.pv) ⟨eQ b xL,ph,fs⟩ ⟨eQ b xL,bn,fs⟩ .next) /\
    sB G.TS G.NI N bn/\dU Ix (E++GT R) N.abs/\(∀z,z∈Ix↔z∈Nm\/z∈AT R)/\g.ig N:=by
 intro k
 induction k with
 |nil=>
  intro g ph Nm E S T Y B O M Q;exact⟨ph,g,Nm,λ _ _ _ _ _=>FJ.done trivial XJ.nil,S,by simpa [GT] using B,λ z=>by simp[AT],rfl⟩
 |cons r R q=>
  intro g ph Nm E S T Y B O M Q;have m:=B.len O;have BL:r.name∈U:=M _ (by simp[AT]);have D6:GT (r::R)=(r.kt.map λ y=>(r.name,y))++GT R:=by unfold GT cr.GT;rw[dz]
  rw[D6] at Q;simp only[aP,aE] at Q;apply bd;intro c;obtain⟨Db,Z,o,S1,iR,Re,_⟩:x2402:=Ow (x:=r.name) G S Y (fK (av m d) rfl);have f:=B.Ht r.name;rw[<-iR] at f;have FM:Z.b=b:=by rw[Re];exact T
  have zn:Z.ready=none:=by rw[Re];exact Y
  obtain⟨Da,I,US,wR,S2,B2,oS,wm⟩:=V1 (b:=b) (xL:=xL) (x:=r.name) G U d BL r.kt Z Db _ _ S1 FM zn f (mZ.mpr (.inr rfl)) (λ z H=>(mZ.mp H).elim (O z) λ e=>e▸BL) (λ y h=>M y (by simp[AT,h])) (by lia);have gr:I.b=b:=by rw[wm];exact FM
  have cR:I.ready=none:=by rw[wm];exact zn
  have vG:∀z,z∈US↔(z∈Nm\/z=r.name)\/z∈r.kt:=λ z=>by rw[(oS),(mZ)]
  obtain⟨bn,N,Ix,sD,p,j,cQ,t9⟩:=q I Da _ _ S2 gr cR B2 (λ z H=>by
   rcases (vG z).mp H with (a|a)|a
   .exact O z a
   .exact a▸BL
   .exact M z (by simp[AT,a])) (λ z H=>M z (by
    unfold AT at H ⊢;rw[aL,dz]
    simp at H ⊢
    rcases H with a|a
    .exact .inr (.inl a)
    .exact .inr (.inr (.inr a)))) (by simp only[aP,aE];lia)
  apply c;refine⟨bn,N,Ix,λ A L fs J C=>?_,p,?_,λ z=>?_,?_⟩
  .have D:=G.d 52;have K:=D.mt (L:=L);apply bd;intro c;obtain⟨u,KB,cy⟩:=(G.m 2).fn.at_;apply c;subst T;refine FJ.next trivial (AJ.pM J.handled (.cons (AJ.name K (.inl (D.kind rfl))) (.cons (AJ.name K (.inl (D.kind rfl))) (.cons (AJ.name K (.inl (D.kind rfl))) .nil rfl) rfl) rfl)) (bi:=⟨eQ g.b xL,Da,fs⟩) ?_ (.inl rfl) (sD A L fs J C);refine XJ.sw (al:=⟨("name",.str r.name)::eQ g.b xL,Da,fs⟩) (XJ.cons (SJ.expr K (EJ.fy (bi:=⟨("needs",.lst (r.kt.map .str))::("name",.str r.name)::("octal",.int r.oct)::eQ g.b xL,ph,fs⟩) (EJ.loc rfl (D.kind rfl) K) (cW.ts G 2 rfl S.inst rfl) (am.cons (EJ.loc rfl (D.kind rfl) K) am.nil) KB cy o J C.cw)) (XJ.cons (SJ.for J.handled (EJ.loc rfl (D.kind rfl) K) rc.lst (FJ.pre (wR A L fs J C) (aw.cons rfl (aw.cons rfl (aw.cons rfl (aw.cons rfl (aw.cons rfl .nil))))))) XJ.nil)) (aw.cons rfl (aw.cons rfl (aw.cons rfl (aw.cons rfl .nil))))
  .rw[eH] at j;rw[D6];exact j
  .rw[(cQ z),(vG z)];unfold AT;rw[aL,dz];simp only[be,aG]
   constructor
   .rintro (((a|a)|a)|(a|a))
    .exact .inl a
    .exact .inr (.inl (.inl a))
    .exact .inr (.inr (.inl a))
    .exact .inr (.inl (.inr a))
    .exact .inr (.inr (.inr a))
   .rintro (a|(a|a)|a|a)
    .exact .inl (.inl (.inl a))
    .exact .inl (.inl (.inr a))
    .exact .inr (.inl a)
    .exact .inl (.inr a)
    .exact .inr (.inr a)
  .rw[Gr.ig] at Re wm t9 ⊢;rw[t9,wm,Re]
noncomputable def vJ:aC:=gl (ay (sA 52)) 3
noncomputable def Hq:aC:=gl (TI vJ) 1
noncomputable def gy (b:Nat)(ring:Bool)(rs:List (List Str)):List (Str×PV):=[("sorter",.ref b),("ring",.bool ring),("rounds",.lst (rs.map λ g=>.lst (g.map .str)))]
noncomputable def nR (b:Nat)(ring:Bool)(rs:List (List Str))(grp:List Str)(n:Nat):List (Str×PV):=("active",.lst (dy n (.bool true)))::("group",.tup (grp.map .str))::("behind",.tup [])::gy b ring rs
theorem dm.PX {ii}(M:dm Nm E D O (Gr.abs g) ii){n:Nd}(C:n∈g.nodes):∀x∈n.succ,x∈g.nodes.map (·.name):=λ x B=>by
 rw[M.gs.succ C] at B;rw[<-mf,M.gs.names];exact(M.gs.ends _ (sI.mp B)).1
theorem N0 {b:Nat}{ring:Bool}{rs:List (List Str)}{gp:List Str}(G:Top2 w V mg mb)(U:List Str)(k:U.length<=20)(hN:∀z∈Nm,z∈U)(hE:E.length<900):
  ∀(O:List Str) (D:List Str) (n:Nat) (g:Gr) (ph:List PO) (ii:List Str),sB G.TS G.NI g ph->g.b=b->g.ready=some (r,ii)->dm Nm E D O g.abs ii->g.fi+O.length=g.po->n+O.length<=20 ->
   ∃bn B eN,(∀A L fs,wn A 4->Ctx A (callEnvC (G.fd 52) L (G.fn 52)) fs->FJ pp w V A (callEnvC (G.fd 52) L (G.fn 52)) (λ _=>True) (jb Hq) (bo Hq) [] (O.map .str) ⟨nR b ring rs gp n,ph,fs⟩ ⟨nR b ring rs gp (n+O.length),bn,fs⟩ .next) /\
    sB G.TS G.NI B bn/\B.base=g.base/\B.b=b/\B.ready=some (r,eN)/\dm Nm E (D++O) [] B.abs eN/\B.fi=B.po:=by
 intro f
 induction f with
 |nil=>
  intro D n g ph ii S T Y M N Z;exact⟨ph,g,ii,λ _ _ _ _ _=>FJ.done trivial XJ.nil,S,rfl,T,Y,by simpa using M,by simpa using N⟩
 |cons x O ih=>
  intro D n g ph ii S T Y M N Z;have Qs:x∈Nm:=M.sub x (by simp);apply bd;intro c;obtain⟨nd,fS,rfl⟩:∃nd∈g.nodes,nd.name=x:=by
   have:=Qs;rw[<-M.gs.names,mf] at this;exact aI.mp this
  have xc:nd.np=-1:=by
   have e:=(M.gs.at_ nd.an (aI.mpr ⟨nd,fS,rfl⟩)).1;have e:nd.np=dT E D (nd.name::O) nd.name:=e;rw[e];unfold dT;rw[if_neg (λ q=>(jm.mp M.wv).2.2 _ q _ (aN ..) rfl),if_pos (aN ..)]
  have ft:ii.length<=20:=by
   have:=ip M.rf (m:=U) λ z hz=>hN z ((M.ii z).mp hz).1
   exact av this k
  have eO:nd.succ.length<900:=by
   rw[M.gs.succ fS];have:=HO (E:=E) (y:=nd.name);exact c7 this hE
  have me:=yG G S Y (fK ft rfl);have Q:decide (g.fi<g.po)=true:=decide_eq_true (by rw[<-N];simp;lia);rw[Q,Bool.true_or] at me;obtain⟨Db,J,ER,o,S1,p,Go⟩:=Yf G S Y fS xc (by lia) (M.PX fS);have d:=M.done;rw[<-M.gs.succ fS,<-p] at d;have FM:J.b=b:=by rw[Go];exact T
  have zn:J.ready=some (r,ER):=by rw[Go]
  have Nj:J.fi=g.fi+1:=by rw[Go]
  have VA:J.po=g.po:=by rw[Go]
  obtain⟨bn,B,eN,sD,X,iS,I,iq,j,Xa⟩:=ih (D++[nd.name]) (n+1) J Db ER S1 FM zn d (by rw[Nj,VA,<-N];simp;lia) (by simp at Z;lia);apply c;refine⟨bn,B,eN,λ A L fs R C=>?_,X,iS.trans (by rw[Go]),I,iq,by simpa using j,Xa⟩;have H:=G.d 52;have K:=H.mt (L:=L);apply bd;intro c;obtain⟨ob,KB,cy⟩:=(G.m 5).fn.at_;obtain⟨u,Xz,Tt⟩:=(G.m 7).fn.at_;apply c;subst T;have Py:dy n (PV.bool true)++[.bool true]=dy (n+1) (.bool true):=(List.replicate_succ' ..).symm;have h:=sD A L fs R C;rw[show n+1+O.length=n+(nd.name::O).length by simp;exact nq ..] at h;refine FJ.next trivial (AJ.name K (.inl (H.kind rfl))) (XJ.sw (al:=⟨("active",.lst (dy (n+1) (.bool true)))::("name",.str nd.name)::nR g.b ring rs gp n,Db,fs⟩) (XJ.cons (SJ.assign K (.inl (H.kind rfl)) (EJ.val (.lst (dy (n+1) (.bool true))) (EJ.bin (EJ.loc rfl (H.kind rfl) K) (EJ.list (am.cons (EJ.fy (bi:=⟨("name",.str nd.name)::nR g.b ring rs gp n,ph,fs⟩) (EJ.loc rfl (H.kind rfl) K) (cW.ts G 5 rfl S.inst rfl) am.nil KB cy me (R.mono (by decide)) C.cw) am.nil) (by rw[ak];simp)) (BJ.eg (by rw[ak];simp at Z ⊢;lia))) (by rw[Py]))) (XJ.cons (SJ.expr K (EJ.fy (bi:=⟨("active",.lst (dy (n+1) (.bool true)))::("name",.str nd.name)::nR g.b ring rs gp n,ph,fs⟩) (EJ.loc rfl (H.kind rfl) K) (cW.ts G 7 rfl S.inst rfl) (am.cons (EJ.loc rfl (H.kind rfl) K) am.nil) Xz Tt o (R.mono (by decide)) C.cw)) XJ.nil)) (aw.cons rfl (aw.cons rfl (aw.cons rfl (aw.cons rfl (aw.cons rfl (aw.cons rfl .nil))))))) (.inl rfl) h
theorem MB {b:Nat}{ring:Bool}{Ix}(G:Top2 w V mg mb)(U:List Str)(hU:U.length<=10)(hN:∀z∈Nm,z∈U)(hE:E.length<900)(X:Ix.Pairwise (λ a b=>cF a b=true))(hn:Ix.Nodup)(u:∀z,z∈Ix↔z∈Nm)
   (RR:bK Ix E D rs D'):∀(g:Gr) (ph:List PO) (ii:List Str) (wT:List (List Str)),sB G.TS G.NI g ph->g.b=b->g.ready=some (r,ii)->dm Nm E D [] g.abs ii->g.fi=g.po->wT.length+rs.length<=100 ->
   ∃bn k,(∀i,i<g.base.length->bn[i]? = g.base[i]?)/\∀A L fs,wn A 4->Ctx A (callEnvC (G.fd 52) L (G.fn 52)) fs->WJ pp w V A (callEnvC (G.fd 52) L (G.fn 52)) (dP vJ) (TI vJ) [] k ⟨gy b ring wT,ph,fs⟩ ⟨gy b ring (wT++rs),bn,fs⟩ .next:=by
 induction RR with
 | @done D j=>
  intro g ph ii wT S N Y M p Q;have e:=JC M X hn u;rw[j] at e;have jB:ii=[]:=by
   have:=(lz ii).length_eq;rw[e] at this;exact List.length_eq_zero_iff.mp this.symm
  subst jB;have me:=yG G S Y (by simp);have d:decide (g.fi<g.po)=false:=decide_eq_false (by lia);rw[d] at me;refine⟨ph,0,S.low,λ A L fs R C=>?_⟩;have B:=G.d 52;have K:=B.mt (L:=L);apply bd;intro T;obtain⟨ob,KB,cy⟩:=(G.m 5).fn.at_;apply T;subst N;rw[nC];exact WJ.done _ (TJ.val (EJ.fy (bi:=⟨gy g.b ring wT,ph,fs⟩) (EJ.loc rfl (B.kind rfl) K) (cW.ts G 5 rfl S.inst rfl) am.nil KB cy me (R.mono (by decide)) C.cw) VT.bool) XJ.nil
 | @step D rs D' j _ ih=>
  intro g ph ii wT S N Y M p Q;have e:=JC M X hn u;have ft:ii.length<=10:=by
   have:=ip M.rf (m:=U) λ z hz=>hN z ((M.ii z).mp hz).1
   exact av this hU
  have jB:ii≠[]:=by
   rintro rfl
   exact j (e.symm.trans (List.length_eq_zero_iff.mp (lz []).length_eq))
  have me:=yG G S Y (fK ft rfl);have I:(decide (g.fi<g.po) || !ii.isEmpty)=true:=by
   cases ii with
   |nil=>exact absurd rfl jB
   |cons _ _=>simp
  rw[I] at me;have Z:∀x∈ii,x∈g.nodes.map (·.name):=λ x c=>by
   rw[<-mf,M.gs.names];exact((M.ii x).mp c).1
  apply bd;intro T;obtain⟨Db,J,BP,S1,Ue,Go⟩:x24:=Fs G S Y (fK ft rfl) Z;have FM:J.b=b:=by rw[Go];exact N
  have zn:J.ready=some (r,[]):=by rw[Go]
  obtain⟨Da,H,wR,S2,BM,cH⟩:x24:=Fs G S1 zn (by simp) (λ x c=>by cases c);have gr:H.b=b:=by rw[cH];exact FM
  have cR:H.ready=some (r,[]):=by rw[cH]
  have M2:=M.out;rw[<-Ue,show J.abs=H.abs from BM.symm] at M2;have BW:H.fi+ii.length=H.po:=by
   rw[cH];show J.fi+_=J.po+_;rw[Go];show g.fi+_=g.po+_+_;rw[p];simp
  obtain⟨oM,o,It,wO,S3,VO,M6,ra,M3,Nv⟩:=N0 (b:=b) (ring:=ring) (rs:=wT) (gp:=ii) (r:=r) G U (by lia) hN hE ii D 0 H Da [] S2 gr cR M2 BW (by lia);have M4:dm Nm E (D++grp Ix E D) [] o.abs It:=M3.perm (List.Perm.append_left _ (e▸lz ii));obtain⟨bn,k,nU,hW⟩:=ih o oM It (wT++[grp Ix E D]) S3 M6 ra M4 Nv (by simp at Q ⊢;lia);apply T;rw[VO,show H.base=g.base by rw[cH,Go]] at nU;refine⟨bn,k+1,nU,λ A L fs R C=>?_⟩;have B:=G.d 52;have K:=B.mt (L:=L);apply bd;intro T;obtain⟨ob,KB,cy⟩:=(G.m 5).fn.at_;obtain⟨ob4,Jb,D3⟩:=(G.m 4).fn.at_;apply T;have DW:=hW A L fs R C;rw[eH] at DW;have hb':=N;subst N;have i1:Db[g.b]? = some (.inst G.TS J.fields):=by rw[<-FM];exact S1.inst
  rw[FM] at wR;have h0:SJ pp w V A (callEnvC (G.fd 52) L (G.fn 52)) (gl (TI vJ) 0) ⟨gy g.b ring wT,ph,fs⟩ ⟨("group",.tup (ii.map .str))::("behind",.tup [])::("active",.lst [])::gy g.b ring wT,Da,fs⟩ .next:=by
   have K0:=K;rw[B.gz] at C ⊢;have O:=B.hK (L:=L);generalize At:G.fd 52=fd at O C ⊢;generalize jX:G.fn 52=f at O C ⊢;refine SJ.mT (vs:=[.tup (ii.map .str),.tup [],.lst []]) (al:=⟨gy g.b ring wT,Da,fs⟩) ["group","behind","active"] O R.handled ?_ rfl rfl (by intro y q;simp at q;rcases q with rfl|rfl|rfl<;>exact .inl rfl) rfl rfl;exact EJ.tuple (am.cons (EJ.fy (bi:=⟨gy g.b ring wT,ph,fs⟩) (EJ.loc rfl rfl O) (cW.ts G 4 rfl S.inst rfl) am.nil Jb D3 BP (R.mono (by decide)) C.cw) (am.cons (EJ.fy (bi:=⟨gy g.b ring wT,Db,fs⟩) (EJ.loc rfl rfl O) (cW.ts G 4 rfl i1 rfl) am.nil Jb D3 wR (R.mono (by decide)) C.cw) (am.cons (EJ.list am.nil (by rw[ak];simp)) am.nil))) (by rw[ak];simp)
  have hu:A.units+65<cLine:=by have:=R.units;lia
  refine WJ.next (al:=⟨gy g.b ring wT,ph,fs⟩) (bi:=⟨gy g.b ring (wT++[grp Ix E D]),oM,fs⟩) (TJ.val (EJ.fy (bi:=⟨gy g.b ring wT,ph,fs⟩) (EJ.loc rfl (B.kind rfl) K) (cW.ts G 5 rfl S.inst rfl) am.nil KB cy me (R.mono (by decide)) C.cw) VT.bool) ?_ (.inl rfl) DW;refine XJ.cons h0 (XJ.pre (l:=nR g.b ring wT ii 0) ?_ (aw.cons rfl (aw.cons rfl (aw.cons rfl (aw.cons rfl (aw.cons rfl (aw.cons rfl .nil)))))));refine XJ.cons (SJ.for R.handled (EJ.loc rfl (B.kind rfl) K) rc.tup (wO A L fs R C)) ?_;refine XJ.sw (al:=⟨("rounds",.lst ((wT++[grp Ix E D]).map λ g=>.lst (g.map .str)))::nR g.b ring wT ii (0+ii.length),oM,fs⟩) (XJ.cons (SJ.assign K (.inl (B.kind rfl)) (EJ.val _ (EJ.bin (EJ.loc rfl (B.kind rfl) K) (EJ.list (am.cons (EJ.fq (b:=true) (TJ.ql (TJ.li (EJ.fk (EJ.builtin G.toTop1 K (λ _ _=>.typ _) (B.kind rfl)) (am.cons (EJ.loc rfl (B.kind rfl) K) am.nil) ds.OS) (EJ.builtin G.toTop1 K (λ _ _=>.typ _) (B.kind rfl)) CJ.V3) (TJ.ql (TJ.li (EJ.loc rfl (B.kind rfl) K) (EJ.tuple am.nil (by rw[ak];simp)) (CJ.eq_data (dq hu) rfl rfl rfl rfl)) (TJ.ql (TJ.li EJ.fu (EJ.loc rfl (B.kind rfl) K) (CJ.To (n:=0+ii.length) (by lia) hu)) TJ.and_nil))) (EJ.bY (EJ.builtin G.toTop1 K (λ _ _=>.blt _) (B.kind rfl)) (am.cons (EJ.loc rfl (B.kind rfl) K) am.nil) (ds.Pl (ys:=grp Ix E D) (by lia) (λ zs h1 h2=>(Ip zs h1 h2).trans e)))) am.nil) (by rw[ak];simp)) (BJ.eg (by rw[ak];simp at Q ⊢;lia))) (by rw[aY];rfl))) XJ.nil) (aw.cons rfl (aw.cons rfl (aw.cons rfl .nil)))
theorem UL {R:List cr}{ph:List PO}(G:Top2 w V mg mb)(U:List Str)(hU:U.length<=10)(hR:∀y∈AT R,y∈U)(hE:(GT R).length<900){Ix}
  (hs:Ix.Pairwise (λ a b=>cF a b=true)) (q:Ix.Nodup) (hm:∀z,z∈Ix↔z∈AT R) (RR:bK Ix (GT R) [] rs D'):
  ∃bn,(∀i,i<ph.length->bn[i]? = ph[i]?)/\nb pp w V 5 (G.fn 52) [.lst (R.map cr.pv)] [] ph bn (.lst [.bool (decide ((D'.length:Int)<(Ix.length:Int))),.lst (rs.map λ g=>.lst (g.map .str))]):=by
 have J:=G.d 52;apply bd;intro Q;obtain⟨Db,H,I,BP,S1,N,kV,jv⟩:=Xd (b:=ph.length) (xL:=R.map cr.pv) G U (ww hU rfl) R _ _ [] [] (sB.first (TS:=G.TS) (NI:=G.NI) (base:=ph)) rfl rfl dU.nil (λ z Z=>by cases Z) hR (by simpa using hE);rw[jo] at N;have kV:∀z,z∈I↔z∈AT R:=λ z=>by rw[(kV z)];simp
 have hN:∀z∈I,z∈U:=λ z Z=>hR z ((kV z).mp Z)
 have sj:∀z,z∈Ix↔z∈I:=λ z=>(hm z).trans (kV z).symm
 have FM:H.b=ph.length:=by rw[jv]
 have zn:H.ready=none:=by rw[jv]
 have Xv:H.fi=H.po:=by rw[jv]
 have NZ:=N.len hN;have hB':(I.map id).length=I.length:=by simp
 obtain⟨Da,S2,Aw⟩:=QZ G S1 zn (ww (av NZ hU) rfl) (λ n mo y E=>by
  rw[GS.succ N mo] at E;rw[<-mf,N.names];exact(N.ends _ (sI.mp E)).1)
 apply Q;have M:dm I (GT R) [] [] H.abs (c5 H.nodes):=dm.first N (Oz H.nodes)
 have j:rs.length<=100:=by
  have h1:=RR.len;have h2:=RR.ok q eR.nil;have h3:=ip h2.wv (m:=U) λ z Z=>hN z ((sj z).mp (h2.sub z Z))
  lia
 have Iq:∀e∈GT R,e.1∈Ix/\e.2∈Ix:=λ e o=>⟨(sj _).mpr (N.ends e o).1,(sj _).mpr (N.ends e o).2⟩
 have Ir:∀B:Bool,((∃Y,eU (UV H.nodes) Y/\∀n∈H.nodes,n.name∈Y)/\B=false\/(∃C,oZ (UV H.nodes) C)/\B=true)->decide ((D'.length:Int)<(Ix.length:Int))=B:=λ B h=>by
  rcases h with⟨⟨Y,T,hf⟩,rfl⟩|⟨hC,rfl⟩
  .refine Nx q Iq RR (λ e o=>(EH N).mpr o) T λ z Z=>?_
   have:=(sj z).mp Z;rw[<-N.names,mf] at this;apply bd;intro Q;obtain⟨n,mo,rfl⟩:=aI.mp this;apply Q;exact hf n mo
  .exact W8 q Iq RR (λ c p h=>(EH N).mp h) hC
 generalize cH:({H with ready:=some (Db.length,c5 H.nodes)}:Gr)=g2 at S2;have gr:g2.b=ph.length:=by rw[<-cH];exact FM
 have ja:g2.base=ph:=by rw[<-cH,jv]
 have cR:g2.ready=some (Db.length,c5 H.nodes):=by rw[<-cH]
 have BM:g2.abs=H.abs:=by rw[<-cH];rfl
 have XC:g2.fi=g2.po:=by rw[<-cH];exact Xv
 have mk:∀B:Bool,decide ((D'.length:Int)<(Ix.length:Int))=B->(∀A L D,wn A 4->Ctx A (callEnvC (G.fd 52) L (G.fn 52)) D->SJ pp w V A (callEnvC (G.fd 52) L (G.fn 52)) (gl (ay (sA 52)) 2) ⟨eQ ph.length (R.map cr.pv),Db,D⟩ ⟨gy ph.length B [],Da,D⟩ .next) ->
   ∃bn,(∀i,i<ph.length->bn[i]? = ph[i]?)/\nb pp w V 5 (G.fn 52) [.lst (R.map cr.pv)] [] ph bn (.lst [.bool (decide ((D'.length:Int)<(Ix.length:Int))),.lst (rs.map λ g=>.lst (g.map .str))]):=λ B NL UE=>by
  apply bd;intro Q;obtain⟨oM,k,nU,hW⟩:=MB (b:=ph.length) (ring:=B) (r:=Db.length) G U hU hN hE hs q sj RR g2 Da (c5 H.nodes) [] S2 gr cR (BM.symm▸M) XC (by simpa using j);apply Q;rw[NL];rw[ja] at nU;refine⟨oM,nU,nb.of_body (loc:=[("records",.lst (R.map cr.pv))]) (fl:=.ret (.lst [.bool B,.lst (rs.map λ g=>.lst (g.map .str))])) (ln:=[]) G.T J.fn (re.p1 λ u=>J.binds λ _=>rfl) (J.locs ["records"] (by decide) rfl) ?_⟩;intro A L D O C;have K:=J.mt (L:=L);have h0:SJ pp w V A (callEnvC (G.fd 52) L (G.fn 52)) (gl (ay (sA 52)) 0) ⟨[("records",.lst (R.map cr.pv))],ph,D⟩ ⟨eQ ph.length (R.map cr.pv),ph++[.inst G.TS ({b:=ph.length,d:=ph.length+1,nodes:=[],ready:=none,po:=0,fi:=0}:Gr).fields,.dict [] (some 0)],D⟩ .next:=by
   rw[J.gz] at C ⊢;have X:=J.hK (L:=L);generalize At:G.fd 52=fd at X C ⊢;generalize jX:G.fn 52=f at X C ⊢;refine SJ.mT (vs:=[.ref ph.length,.bool false,.lst []]) (al:=⟨[("records",.lst (R.map cr.pv))],ph++[.inst G.TS ({b:=ph.length,d:=ph.length+1,nodes:=[],ready:=none,po:=0,fi:=0}:Gr).fields,.dict [] (some 0)],D⟩) ["sorter","ring","rounds"] X O.handled ?_ rfl rfl (by intro y E;simp at E;rcases E with rfl|rfl|rfl<;>exact .inl rfl) rfl rfl;exact EJ.tuple (am.cons (EJ.make (bi:=⟨[("records",.lst (R.map cr.pv))],ph,D⟩) (.inst G.TS []) (.inl rfl) G.Rs G.Fj (EJ.glob G.T X rfl G.FU (λ _ _ _=>.obj _)) am.nil (Yn G) (O.mono (by decide)) C.cw) (am.cons EJ.fu (am.cons (EJ.list am.nil (by rw[ak];simp)) am.nil))) (by rw[ak];simp)
  refine XJ.drop (XJ.cons h0 (XJ.cons (SJ.for O.handled (EJ.loc rfl (J.kind rfl) K) rc.lst (BP A L D O C)) (XJ.cons (UE A L D O C) (XJ.cons (SJ.while (hW A L D O C)) (XJ.ret (SJ.ret (EJ.list (am.cons (EJ.loc rfl (J.kind rfl) K) (am.cons (EJ.loc rfl (J.kind rfl) K) am.nil)) (by rw[ak];simp))))))))
 apply bd;intro Q;obtain⟨ob,KB,cy⟩:=(G.m 3).fn.at_;apply Q;have i1:Db[ph.length]? = some (.inst G.TS H.fields):=by rw[<-FM];exact S1.inst
 rcases Aw with⟨hF,zV⟩|⟨hX,hC⟩
 .rw[FM] at hF;refine mk false (Ir false (.inl ⟨zV,rfl⟩)) λ A L D O C=>?_
  have K:=J.mt (L:=L);exact SJ.sw (al:=⟨eQ ph.length (R.map cr.pv),Da,D⟩) (SJ.mL (XJ.cons (SJ.expr K (EJ.fy (bi:=⟨eQ ph.length (R.map cr.pv),Db,D⟩) (EJ.loc rfl (J.kind rfl) K) (cW.ts G 3 rfl i1 rfl) am.nil KB cy hF (O.mono (by decide)) C.cw)) XJ.nil)) (aw.cons rfl (aw.cons rfl (aw.cons rfl .nil)))
 .rw[FM] at hX;refine mk true (Ir true (.inr ⟨hC,rfl⟩)) λ A L D O C=>?_
  have K:=J.mt (L:=L);exact SJ.sw (al:=⟨("ring",.bool true)::eQ ph.length (R.map cr.pv),Da,D⟩) (SJ.qj (al:=⟨eQ ph.length (R.map cr.pv),Da,D⟩) C (XX.head (SX.expr (RX.fy (bi:=⟨eQ ph.length (R.map cr.pv),Db,D⟩) (EJ.loc rfl (J.kind rfl) K) (cW.ts G 3 rfl i1 rfl) am.nil KB cy hX (O.mono (by decide)) C.cw) K)) (fZ.glob G.T K (J.kind rfl) G.wV.1) (eV.own G.wV) (λ e=>XJ.cons (SJ.assign K (.inl (J.kind rfl)) EJ.fu) XJ.nil)) (aw.cons rfl (aw.cons rfl (aw.cons rfl .nil)))
structure Ev (x:PV)(d k:Nat):Prop where
 bR:x.bR=true
 lay:x.D.canLay0=true
 qu:x.D.depth<=d
 qk:x.D.weight<=k
structure yR (xs:List PV)(d k:Nat):Prop where
 bR:PV.n9 xs=true
 lay:PyData.canLayAll0 (PV.Ds xs)=true
 qu:PyData.depthAll (PV.Ds xs)<=d
 qk:PyData.weightAll (PV.Ds xs)<=xs.length * (k+1)
theorem yR.of {d k:Nat}:∀{xs:List PV},(∀x∈xs,Ev x d k)->yR xs d k:=by
 intro D
 induction D with
 |nil=>
  intro _;exact⟨rfl,rfl,eJ _,eJ _⟩
 |cons x xs G=>
  intro h;have C:=h x (aN ..);have B:=G λ y H=>h y (aT _ H)
  refine⟨?_,?_,?_,?_⟩
  .exact Bool.and_eq_true_iff.mpr ⟨C.bR,B.bR⟩
  .exact Bool.and_eq_true_iff.mpr ⟨C.lay,B.lay⟩
  .exact Nat.max_le.mpr ⟨C.qu,B.qu⟩
  .rw[cN,Nat.succ_mul,iG];exact Nat.add_le_add (Nat.succ_le_succ C.qk) B.qk
theorem Ev.lst {xs:List PV}{d k:Nat}(h:∀x∈xs,Ev x d k):Ev (.lst xs) (d+1) (xs.length * (k+1)):=by
 have h:=yR.of h;exact⟨h.bR,h.lay,Nat.succ_le_succ h.qu,h.qk⟩
def kl (x:Str):Prop:=PyData.strOk x=true/\x.cps.size<=100
theorem Ev.str {x:Str}(h:kl x):Ev (.str x) 0 100:=⟨rfl,h.1,aJ _,h.2⟩
theorem Ev.bool {x:Bool}:Ev (.bool x) 0 0:=⟨rfl,rfl,aJ _,aJ _⟩
set_option tactic.hygienic true in
theorem Ev.int {i:Int}(h:i.natAbs<2 ^ 64):Ev (.int i) 0 100:=by
 refine⟨rfl,rfl,aJ _,?_⟩;show ite ((i==0)=true) 0 _<=_
 cases q:i==0 with
 |true=>exact eJ _
 |false=>
  refine ww ((Nat.log2_lt λ e=>?_).mpr h) rfl;rw[Int.natAbs_eq_zero.mp e] at q;cases q
theorem Ev.mono (h:Ev x d k)(C:d<=d')(B:k<=k'):Ev x d' k':=⟨h.bR,h.lay,av h.qu C,av h.qk B⟩
theorem Ev.layable (h:Ev x d k)(C:d<=64:=by decide)(B:k<=2 ^ 20:=by decide):x.D.layable0=true:=by
 unfold PyData.layable0;rw[h.lay,decide_eq_true (av h.qu C),decide_eq_true (av h.qk B)];rfl
theorem Ev.strs {xs:List Str}(h:∀x∈xs,kl x)(D:xs.length<=1000):Ev (.lst (xs.map .str)) 1 (1000 * 101):=by
 refine(Ev.lst (d:=0) (k:=100) λ x B=>?_).mono (aJ _) ?_
 .obtain⟨y,C,rfl⟩:=aI.mp B;exact Ev.str (h y C)
 .rw[aE];exact lV _ D
theorem Ev.refl (h:Ev x d k):PyData.eqv x.D x.D=true:=PySem.SeqAt.eqv_refl _ h.lay
theorem HN {xs:List Str}:PyData.eqv (PV.lst (xs.map .str)).D (PV.lst []).D=xs.isEmpty:=by
 cases xs with
 |nil=>rfl
 |cons x r=>rfl
theorem xg {l:List Str}{z:Str}:l.any (· == z)=decide (z∈l):=by
 rw[(iE),(pB),(decide_eq_true_iff)]
 constructor
 .rintro ⟨y,B,e⟩;exact beq_iff_eq.mp e▸B
 .intro h;exact⟨z,h,by simp⟩
noncomputable def jW (D:List Str)(r:cr):List Str:=r.kt.filter λ y=>!decide (y∈D)
noncomputable def fH (R:List cr)(D:List Str):List Str:=(R.filter λ r=>!(jW D r).isEmpty).map (·.name)
theorem GG:z∈fH R D↔SL (GT R) D z≠0:=by
 unfold fH;rw[(aI)]
 constructor
 .rintro ⟨r,C,rfl⟩ h
  rw[l9] at C;obtain⟨C,H⟩:x02:=C
  cases e:jW D r with
  |nil=>rw[e] at H;cases H
  |cons y t=>
   have B:y∈jW D r:=by rw[e];exact aN ..
   unfold jW at B;rw[l9] at B;have:=oB.mp h (r.name,y) (List.mem_flatMap.mpr ⟨r,C,aI.mpr ⟨y,B.1,rfl⟩⟩) rfl
   simp[this] at B
 .intro h;refine o8 λ J=>h (oB.mpr λ e G L=>o8 λ M=>J ?_)
  obtain⟨r,C,G⟩:=List.mem_flatMap.mp G;obtain⟨y,B,rfl⟩:=aI.mp G;refine⟨r,l9.mpr ⟨C,?_⟩,L⟩;have:y∈jW D r:=l9.mpr ⟨B,by simpa using M⟩
  cases e:jW D r with
  |nil=>rw[e] at this;cases this
  |cons _ _=>rfl
theorem TK:grp Nm (GT R) D=Nm.filter λ z=>!decide (z∈D) && !decide (z∈fH R D):=by
 unfold grp;apply List.filter_congr;intro z _
 congr 1
 by_cases h:SL (GT R) D z=0
 .have:z∉fH R D:=λ q=>GG.mp q h
  simp[h,this]
 .have:z∈fH R D:=GG.mpr h
  simp[h,this]
noncomputable def HR:Scope:={kind:=e8,names:=[(".0",NameKind.local),("octal",NameKind.local),("name",NameKind.local),("needs",NameKind.local)],isGenerator:=false,isCoroutine:=false}
noncomputable def Rt:Scope:={kind:=e8,names:=[(".0",NameKind.local),("octal",NameKind.local),("name",NameKind.local),("needs",NameKind.local),("need",NameKind.local)],isGenerator:=false,isCoroutine:=false}
noncomputable def JS:aF:=sub (sub (KT (gl (ay (sA 53)) 0) 0) 1) 1
noncomputable def Bh:aF:=sub JS 0
noncomputable def vW:List gg:=(qZ JS).2.1
theorem MI {db:List PO}{ms:aB}(K:ut ms)(L:A.handled=none)(k1:ms.kindOf "octal"=some .local)(k2:ms.kindOf "name"=some .local)(k3:ms.kindOf "needs"=some .local)(G:ms.kindOf "need"=some .local):
  ∀(R:List cr) (ys:List PV),ys.length+(R.flatMap (·.kt)).length<=aH ->
   wf pp w V A ms Bh db.length (λ _=>True) vW (R.map cr.pv) ⟨[],db++[.list ys],fs⟩ ⟨[],db++[.list (ys++(R.flatMap (·.kt)).map .str)],fs⟩:=by
 intro J
 induction J with
 |nil=>
  intro ys h;rw[List.flatMap_nil,List.map_nil,List.map_nil,nC];exact wf.done trivial
 |cons r R C=>
  intro ys h;rw[dz,aP] at h;have C:=C (ys++r.kt.map .str) (by rw[aP,aE];lia);rw[eH,<-aY] at C;have B:wf pp w V A ms Bh db.length (λ _=>True) (vW.drop 1) (r.kt.map .str) ⟨[],db++[.list ys],fs⟩ ⟨[],db++[.list (ys++r.kt.map .str)],fs⟩:=by
   have:=wf.turns (pg:=pp) (w:=w) (V:=V) (A:=A) (ew:=ms) (elt:=Bh) (target:=(vW.getD 1 default).target) (iter:=(vW.getD 1 default).iter) (ifs:=[]) (ge:=[]) (db:=db) (fs:=fs) (Hd:=λ _=>True) (λ _=>trivial) (xs:=r.kt.map .str) (rs:=r.kt.map λ y=>some (.str y)) (ys:=ys) (by simp) (λ j x q H D=>by
    rw[cM] at H D;obtain⟨y,M,rfl⟩:=pA.mp H;rw[M] at D;cases D;exact Fr.yes λ N=>⟨_,_,AJ.name K (.inl G),b9.none,EJ.weak (EJ.loc rfl G K) .nil⟩) (by rw[aE];lia)
   rw[MW] at this;exact this
  exact wf.nest trivial (AJ.pM L (.cons (AJ.name K (.inl k1)) (.cons (AJ.name K (.inl k2)) (.cons (AJ.name K (.inl k3)) .nil rfl) rfl) rfl)) b9.none (EJ.weak (EJ.loc rfl k3 K) .nil) rc.lst (λ _=>rfl) B (by rw[dz];exact C)
noncomputable def oQ (R:List cr)(Nm D:List Str)(rs:List (List Str)):List (Str×PV):=[("come",.lst (D.map .str)),("rounds",.lst (rs.map λ g=>.lst (g.map .str))),("names",.lst (Nm.map .str)),("records",.lst (R.map cr.pv))]
noncomputable def vL:aC:=gl (ay (sA 53)) 3
theorem Xb {α:Type}{l:List α}{j:Nat}(h:j<=l.length):fA l none (some (j:Int))=l.take j:=by
 show(l.drop 0).take (clipAt l.length (j:Int) - 0)=_;rw[BV,Nat.sub_zero,List.drop_zero,nu h]
theorem EU {r:cr}:∀{R:List cr},r∈R->r.kt.length<=(R.flatMap (·.kt)).length
 |x::R,h=>by
  rw[dz,aP]
  rcases aG.mp h with rfl|h
  .exact dW _ _
  .exact av (EU h) (eb _ _)
theorem TJ.uo (B:TJ pg w V A ew x st st a)(C:TJ pg w V A ew y st st b):TJ pg w V A ew (.BoolOp .And [x,y] pos) st st (a&&b):=by
 cases a with
 |false=>exact TJ.HW B
 |true=>cases b with
  |false=>exact TJ.ql B (TJ.HW C)
  |true=>exact TJ.ql B (TJ.ql C TJ.and_nil)
theorem GY {ms:aB}{ge:List (Str×PV)}(K:ut ms)(B:A.handled=none)(k1:ms.kindOf "octal"=some .local)(k2:ms.kindOf "name"=some .local)(k3:ms.kindOf "needs"=some .local):
  AJ pp w V A ms (.Tuple [.Name "octal" p1,.Name "name" p2,.Name "needs" p3] k pos) (cr.pv r) ⟨ge,ph,fs⟩ ⟨("needs",.lst (r.kt.map .str))::("name",.str r.name)::("octal",.int r.oct)::ge,ph,fs⟩:=
 AJ.pM B (.cons (AJ.name K (.inl k1)) (.cons (AJ.name K (.inl k2)) (.cons (AJ.name K (.inl k3)) .nil rfl) rfl) rfl)
theorem Wu {ms:aB}{db}{ge:List (Str×PV)}(K:ut ms)(B:A.handled=none)(k1:ms.kindOf "octal"=some .local)(k2:ms.kindOf "name"=some .local)(k3:ms.kindOf "needs"=some .local)
  (C:aw ge (("needs",.lst (r.kt.map .str))::("name",.str r.name)::("octal",.int r.oct)::ge))
  (h:∀ys,TJ pp w V A ms c ⟨("needs",.lst (r.kt.map .str))::("name",.str r.name)::("octal",.int r.oct)::ge,db++[.list ys],fs⟩ ⟨("needs",.lst (r.kt.map .str))::("name",.str r.name)::("octal",.int r.oct)::ge,db++[.list ys],fs⟩ b /\
   EJ pp w V A ms elt ⟨("needs",.lst (r.kt.map .str))::("name",.str r.name)::("octal",.int r.oct)::ge,db++[.list ys],fs⟩ ⟨("needs",.lst (r.kt.map .str))::("name",.str r.name)::("octal",.int r.oct)::ge,db++[.list ys],fs⟩ v):
  Fr pp w V A ms (.Tuple [.Name "octal" p1,.Name "name" p2,.Name "needs" p3] k pos) [c] elt (cr.pv r) ge db fs (if b then some v else none):=Fr.test (λ ys=>⟨GY K B k1 k2 k3,h ys⟩) C
theorem Mi {ms:aB}{db}{ge:List (Str×PV)}(K:ut ms)(B:A.handled=none)(k1:ms.kindOf "octal"=some .local)(k2:ms.kindOf "name"=some .local)(k3:ms.kindOf "needs"=some .local)
  (C:aw ge (("needs",.lst (r.kt.map .str))::("name",.str r.name)::("octal",.int r.oct)::ge))
  (h:∀ys,EJ pp w V A ms elt ⟨("needs",.lst (r.kt.map .str))::("name",.str r.name)::("octal",.int r.oct)::ge,db++[.list ys],fs⟩ ⟨("needs",.lst (r.kt.map .str))::("name",.str r.name)::("octal",.int r.oct)::ge,db++[.list ys],fs⟩ v):
  Fr pp w V A ms (.Tuple [.Name "octal" p1,.Name "name" p2,.Name "needs" p3] k pos) [] elt (cr.pv r) ge db fs (some v):=Fr.each (λ ys=>⟨GY K B k1 k2 k3,h ys⟩) C
noncomputable def E9:Scope:={kind:=e8,names:=[(".0",NameKind.local),("k",NameKind.local),("names",dN)],isGenerator:=false,isCoroutine:=false}
noncomputable def R7:Scope:={kind:=e8,names:=[(".0",NameKind.local),("octal",NameKind.local),("name",NameKind.local),("needs",NameKind.local),("come",dN)],isGenerator:=false,isCoroutine:=false}
noncomputable def XP:Scope:={kind:=e8,names:=[(".0",NameKind.local),("need",NameKind.local),("come",dN)],isGenerator:=false,isCoroutine:=false}
noncomputable def OW:Scope:={kind:=e8,names:=[(".0",NameKind.local),("name",NameKind.local),("come",dN),("late",dN)],isGenerator:=false,isCoroutine:=false}
theorem Ms {R:List cr}{ph:List PO}(G:Top1 w V mg mb)(hS:∀y∈AT R,kl y)(Z:(AT R).length<64)
  (RR:bK (TT [] (bT (AT R))) (GT R) [] rs D'):
  nb pp w V 2 (G.fn 53) [.lst (R.map cr.pv)] [] ph ph (.lst [.bool (decide ((D'.length:Int)<((TT [] (bT (AT R))).length:Int))),.lst (rs.map λ g=>.lst (g.map .str))]):=by
 have Q:=G.d 53;refine nb.of_body (loc:=[("records",.lst (R.map cr.pv))]) (fl:=.ret (.lst [.bool (decide ((D'.length:Int)<((TT [] (bT (AT R))).length:Int))),.lst (rs.map λ g=>.lst (g.map .str))])) (ln:=[]) G.T Q.fn (re.p1 λ u=>Q.binds λ _=>rfl) (Q.locs ["records"] (by decide) rfl) ?_;intro A L B J C;rw[Q.gz] at C ⊢;have K:=Q.hK (L:=L);generalize At:G.fd 53=fd at K C ⊢;generalize jX:G.fn 53=f at K C ⊢;have sN:az (callEnvC (gt fd (sA 53)) L f) "names":=.inr ⟨rfl,rfl,rfl⟩;have sC:az (callEnvC (gt fd (sA 53)) L f) "come":=.inr ⟨rfl,rfl,rfl⟩;have sL:az (callEnvC (gt fd (sA 53)) L f) "late":=.inr ⟨rfl,rfl,rfl⟩;have sR:az (callEnvC (gt fd (sA 53)) L f) "rounds":=.inl rfl;have sG:az (callEnvC (gt fd (sA 53)) L f) "group":=.inl rfl;have O:(AT R).length=R.length+(R.flatMap (·.kt)).length:=by unfold AT;rw[aP,aE]
 have Gg:(bT (AT R)).length=(AT R).length:=(lz _).length_eq;have Ug:R.length<=1000:=av (O▸dW _ _) (av (dq Z) (by decide));generalize oz:bT (AT R)=N1 at RR Gg ⊢;have qB:N1.length<=1000:=Gg▸av (dq Z) (by decide);have h0:SJ pp w V A (callEnvC (gt fd (sA 53)) L f) (gl (ay (sA 53)) 0) ⟨[("records",.lst (R.map cr.pv))],ph,B⟩ ⟨[("names",.lst (N1.map .str)),("records",.lst (R.map cr.pv))],ph,B⟩ .next:=by
  refine SJ.assign K sN (EJ.bY (EJ.builtin G K (λ _ _=>.blt _) rfl) (am.cons (EJ.val (.lst ((AT R).map .str)) (EJ.bin (EJ.listcomp (cl:=[]) (ys:=(R.map (·.name)).map .str) (ge:=[]) (ln:=[]) J.handled (P3.of rfl rfl rfl rfl .nil .nil) (EJ.loc rfl rfl K) rc.lst ?_ fe) (EJ.listcomp (cl:=[]) (ys:=(R.flatMap (·.kt)).map .str) (ge:=[]) (ln:=[]) J.handled (P3.of rfl rfl rfl rfl .nil .nil) (EJ.loc rfl rfl K) rc.lst ?_ fe) (BJ.eg (by rw[ak,aE,aE,aE];lia))) (by unfold AT;rw[aY])) am.nil) (ds.sorted (ys:=N1) Z (λ zs a b=>(Ip zs a b).trans oz)))
  .intro T d m;rw[bz];exact wf.all (λ _=>trivial) (small (av (O▸dW _ _) (av (dq Z) (by decide)))) λ r _=>Mi (K.comp (scope:=HR) (cl:=[]) (C:=T) rfl) J.handled rfl rfl rfl aw.nil λ U=>EJ.loc rfl rfl (K.comp (scope:=HR) (cl:=[]) (C:=T) rfl)
  .intro T d m;have M:=K.comp (scope:=Rt) (cl:=[]) (C:=T) rfl;have:=MI (w:=w) (V:=V) (db:=ph) (fs:=(L,d)::B) M J.handled rfl rfl rfl rfl R [] (by rw[ak,List.length_nil];lia);exact this
 have h1:SJ pp w V A (callEnvC (gt fd (sA 53)) L f) (gl (ay (sA 53)) 1) ⟨[("names",.lst (N1.map .str)),("records",.lst (R.map cr.pv))],ph,B⟩ ⟨("names",.lst ((TT [] N1).map .str))::[("names",.lst (N1.map .str)),("records",.lst (R.map cr.pv))],ph,B⟩ .next:=by
  refine SJ.assign K sN (EJ.listcomp (cl:=[("names",L+1)]) (ys:=(TT [] N1).map .str) (ge:=[("names",.lst (N1.map .str))]) (ln:=[("names",.lst (N1.map .str))]) J.handled (P3.of rfl rfl rfl rfl (.cons rfl .nil) (.cons ⟨rfl,.inl rfl,.inl rfl⟩ .nil)) (EJ.fk (EJ.builtin G K (λ _ _=>.typ _) rfl) (am.cons (EJ.bY (EJ.builtin G K (λ _ _=>.blt _) rfl) (am.cons (EJ.cell rfl rfl rfl K) am.nil) (ds.sJ (by simp;exact fK qB rfl))) am.nil) ds.ko) (rc.eh (by decide) (by simp;exact V9 qB rfl) (by simp)) ?_ fe);intro T d m;refine wf.AH (ls [] N1) (ze [] N1).symm (λ _=>trivial) (by rw[DO,xp,Int.sub_zero,gh,aE]) (λ j x q hx hq=>?_) (by rw[xp,Int.sub_zero,gh,aE];exact small qB);obtain⟨I,rfl⟩:x02:=Gf hx;rw[Int.sub_zero,gh,aE] at I;have P5:j<2 ^ 62:=gb I (av qB (by decide));rw[DT,jo,dc I,Option.map_some] at hq;obtain rfl:=Option.some.inj hq;have M:=K.comp (scope:=E9) (cl:=[("names",L+1)]) (C:=T) rfl;have dR:(N1.map PV.str)[j]? = some (.str N1[j]):=by rw[cM,dc I];rfl
  have eO:fA (N1.map PV.str) none (some (j:Int))=(N1.take j).map .str:=by rw[Xb (by rw[aE];exact dq I),List.map_take]
  have Y:∀{st:PS}{p1 p2 p3},st.loc.lookup ("names" : Str)=some (.lst (N1.map .str))->st.loc.lookup ("k" : Str)=some (.int j)->EJ pp w V A (dM E9 [("names",L+1)] T (callEnvC (gt fd (sA 53)) L f)) (.Subscript (.Name "names" p1) (.Name "k" p2) p3) st st (.str N1[j]):=
   λ e1 e2=>EJ.sub (EJ.cell e1 rfl rfl M) (EJ.loc e2 rfl M) (GJ.iQ dR P5)
  rw[<-xg];exact Fr.qU M (.inl rfl) (aw.cons rfl .nil) λ U=>⟨TJ.li (Y rfl rfl) (EJ.val _ (EJ.rk (EJ.cell rfl rfl rfl M) PJ.none (PJ.some (EJ.loc rfl rfl M)) (by rw[aE];exact small qB)) (by rw[eO])) CJ.vI,Y rfl rfl⟩
 have ti:(TT [] N1).length<=N1.length:=(tW [] N1).length_le;have A9:=wb [] N1;have FY:∀z∈TT [] N1,z∈AT R:=λ z hz=>(lz _).mem_iff.mp (oz.symm▸((uA [] N1 z).mp hz).1)
 generalize adz:TT [] N1=Nm at RR ti A9 FY h1 ⊢;have vP:Nm.length<=1000:=av ti qB;have hu:A.units+64<cLine:=J.u 64;have FK:∀D wT,SJ pp w V A (callEnvC (gt fd (sA 53)) L f) (gl (TI vL) 0) ⟨oQ R Nm D wT,ph,B⟩ ⟨("late",.lst ((fH R D).map .str))::oQ R Nm D wT,ph,B⟩ .next:=λ D wT=>by
  refine SJ.assign K sL (EJ.listcomp (cl:=[("come",L+1+1)]) (ys:=(fH R D).map .str) (ge:=[("come",.lst (D.map .str))]) (ln:=[("come",.lst (D.map .str))]) J.handled (P3.of rfl rfl rfl rfl (.cons rfl .nil) (.cons ⟨rfl,.inl rfl,.inl rfl⟩ .nil)) (EJ.loc rfl rfl K) rc.lst ?_ fe);intro T d m;unfold fH;rw[bz];refine wf.rows (λ r=>!(jW D r).isEmpty) (λ _=>trivial) (small Ug) λ r Ia=>?_
  have Gj:r.kt.length<=1000:=av (EU Ia) (av (O▸eb _ _) (av (dq Z) (by decide)));have M:=K.comp (scope:=R7) (cl:=[("come",L+1+1)]) (C:=T) rfl;have Jv:Ev (.lst ((jW D r).map .str)) 1 (1000 * 101):=Ev.strs (λ y o=>hS y (nL _ (List.mem_flatMap.mpr ⟨r,Ia,(l9.mp o).1⟩))) (av (List.length_filter_le _ _) Gj);refine Wu M J.handled rfl rfl rfl (aw.cons rfl .nil) λ U=>⟨?_,EJ.loc rfl rfl M⟩
  rw[<-HN];refine TJ.li (EJ.listcomp (cl:=[("come",L+1+1)]) (ys:=(jW D r).map .str) (ge:=[("come",.lst (D.map .str))]) (ln:=[("come",.lst (D.map .str))]) J.handled (P3.of rfl rfl rfl rfl (.cons rfl .nil) (.cons ⟨rfl,(by first|exact .inl rfl|exact .inr rfl),(by first|exact .inl rfl|exact .inr rfl)⟩ .nil)) (EJ.loc rfl rfl M) rc.lst ?_ fe) (EJ.list am.nil small) (CJ.ne_data hu Jv.bR rfl Jv.layable rfl);intro Cd d2 hd2;unfold jW;have N:=M.comp (scope:=XP) (cl:=[("come",L+1+1)]) (C:=Cd) rfl;exact wf.rows (λ y=>!decide (y∈D)) (λ _=>trivial) (small Gj) λ y _=>by
   rw[<-xg];exact Fr.qU N (.inl rfl) (aw.cons rfl .nil) λ zs=>⟨TJ.li (EJ.loc rfl rfl N) (EJ.cell rfl rfl rfl N) CJ.vI,EJ.loc rfl rfl N⟩
 have He:∀D wT,SJ pp w V A (callEnvC (gt fd (sA 53)) L f) (gl (TI vL) 1) ⟨("late",.lst ((fH R D).map .str))::oQ R Nm D wT,ph,B⟩ ⟨("group",.lst ((grp Nm (GT R) D).map .str))::("late",.lst ((fH R D).map .str))::oQ R Nm D wT,ph,B⟩ .next:=λ D wT=>by
  refine SJ.Es (cl:=[("late",L+1+1+1),("come",L+1+1)]) (ys:=(grp Nm (GT R) D).map .str) (ge:=[("come",.lst (D.map .str)),("late",.lst ((fH R D).map .str))]) (ln:=[("come",.lst (D.map .str)),("late",.lst ((fH R D).map .str))]) K sG J.handled (P3.of rfl rfl rfl rfl (.cons rfl (.cons rfl .nil)) (.cons ⟨rfl,.inl rfl,.inl rfl⟩ (.cons ⟨rfl,.inl rfl,.inl rfl⟩ .nil))) (EJ.cell rfl rfl rfl K) rc.lst ?_ fe rfl;intro T d m;rw[TK];refine wf.rows (λ z=>!decide (z∈D) && !decide (z∈fH R D)) (λ _=>trivial) (small vP) λ y _=>?_
  have N:=K.comp (scope:=OW) (cl:=[("late",L+1+1+1),("come",L+1+1)]) (C:=T) rfl;refine Fr.qU N (.inl rfl) (aw.cons rfl (aw.cons rfl .nil)) λ zs=>⟨?_,EJ.loc rfl rfl N⟩
  rw[<-xg,<-xg];exact TJ.uo (TJ.li (EJ.loc rfl rfl N) (EJ.cell rfl rfl rfl N) CJ.vI) (TJ.li (EJ.loc rfl rfl N) (EJ.cell rfl rfl rfl N) CJ.vI)
 have vw:∀{D rs D'},bK Nm (GT R) D rs D'->∀wT:List (List Str),eR Nm (GT R) D->wT.length+rs.length<=100->∃k,WJ pp w V A (callEnvC (gt fd (sA 53)) L f) (dP vL) (TI vL) [] k ⟨oQ R Nm D wT,ph,B⟩ ⟨[],ph,B⟩ (.ret (.lst [.bool (decide ((D'.length:Int)<(Nm.length:Int))),.lst ((wT++rs).map λ g=>.lst (g.map .str))])):=by
  intro D rs D' r
  induction r with
  | @done D X=>
   intro wT c H;have Go:=He D wT;rw[X] at Go;have wy:=ip c.wv c.sub;refine⟨0,WJ.ret _ (TJ.val EJ.fu VT.bool) ?_⟩;rw[nC];exact XJ.drop (XJ.cons (FK D wT) (XJ.cons Go (XJ.stop (SJ.iff (b:=true) (TJ.li (EJ.loc rfl rfl K) (EJ.list am.nil small) (CJ.eq_data hu rfl rfl rfl rfl)) (XJ.ret (SJ.ret (EJ.list (am.cons (EJ.val (.bool (decide ((D.length:Int)<(Nm.length:Int)))) (EJ.li (EJ.bY (EJ.builtin G K (λ _ _=>.blt _) rfl) (am.cons (EJ.cell rfl rfl rfl K) am.nil) (ds.sJ (by rw[aE];exact fK (av wy vP) rfl))) (EJ.bY (EJ.builtin G K (λ _ _=>.blt _) rfl) (am.cons (EJ.cell rfl rfl rfl K) am.nil) (ds.sJ (by rw[aE];exact fK vP rfl))) CJ.lt_int) (by rw[aE,aE])) (am.cons (EJ.loc rfl rfl K) am.nil)) small)))) (λ e=>nomatch e))))
  | @step D rs D' X _ ih=>
   intro wT c H;have Af:=c.step A9;have wy:=ip Af.wv Af.sub;rw[aP] at wy;have oN:Ev (.lst ((grp Nm (GT R) D).map .str)) 1 (1000 * 101):=Ev.strs (λ y o=>hS y (FY y (mX.mp o).1)) (by lia);have p:PyData.eqv (PV.lst ((grp Nm (GT R) D).map .str)).D (PV.lst []).D=false:=by
    rw[HN]
    cases e:grp Nm (GT R) D with
    |nil=>exact absurd e X
    |cons _ _=>rfl
   obtain⟨k,E⟩:=ih (wT++[grp Nm (GT R) D]) Af (by simp at H ⊢;lia);rw[eH] at E;refine⟨k+1,WJ.next (TJ.val EJ.fu VT.bool) ?_ (.inl rfl) E⟩;refine XJ.sw (al:=⟨("come",.lst ((D++grp Nm (GT R) D).map .str))::("rounds",.lst ((wT++[grp Nm (GT R) D]).map λ g=>.lst (g.map .str)))::("group",.lst ((grp Nm (GT R) D).map .str))::("late",.lst ((fH R D).map .str))::oQ R Nm D wT,ph,B⟩) (XJ.cons (FK D wT) (XJ.cons (He D wT) (XJ.cons (SJ.iff (b:=false) (p▸TJ.li (EJ.loc rfl rfl K) (EJ.list am.nil small) (CJ.eq_data hu oN.bR rfl oN.layable rfl)) XJ.nil) (XJ.cons (SJ.assign_tuple (EJ.tuple (am.cons (EJ.val (.lst ((wT++[grp Nm (GT R) D]).map λ g=>.lst (g.map .str))) (EJ.bin (EJ.loc rfl rfl K) (EJ.list (am.cons (EJ.loc rfl rfl K) am.nil) small) (BJ.eg (by rw[ak];simp at H ⊢;exact ww (Nat.le_of_add_right_le H) rfl))) (by rw[aY];rfl)) (am.cons (EJ.val (.lst ((D++grp Nm (GT R) D).map .str)) (EJ.bin (EJ.cell rfl rfl rfl K) (EJ.loc rfl rfl K) (BJ.eg (by rw[ak,aE,aE];exact ww (av wy vP) rfl))) (by rw[aY])) am.nil)) small) (AJ.kE J.handled (.cons (AJ.name K sR) (.cons (AJ.name K sC) .nil rfl) rfl))) XJ.nil)))) (aw.cons rfl (aw.cons rfl (aw.cons rfl (aw.cons rfl .nil))))
 have ft:rs.length<=100:=by
  have q1:=RR.len;have q2:=RR.ok A9 eR.nil;have q3:=ip q2.wv q2.sub
  lia
 obtain⟨k,E⟩:=vw RR [] eR.nil (by simpa using ft);exact XJ.cons h0 (XJ.cons h1 (XJ.cons (al:=⟨("come",.lst [])::("rounds",.lst [])::("names",.lst (Nm.map .str))::[("names",.lst (N1.map .str)),("records",.lst (R.map cr.pv))],ph,B⟩) (SJ.assign_tuple (EJ.tuple (am.cons (EJ.list am.nil small) (am.cons (EJ.list am.nil small) am.nil)) small) (AJ.kE J.handled (.cons (AJ.name K sR) (.cons (AJ.name K sC) .nil rfl) rfl))) (XJ.pre (l:=oQ R Nm [] []) (XJ.ret (SJ.while E)) (aw.cons rfl (aw.cons rfl (aw.cons rfl (aw.cons rfl .nil)))))))
noncomputable def bV (z:Value)(it:Addr)(i:Int)(old:Value):Obj:={cls:=.type "enumerate",data:=.fields #[z,.bool false,.ref it,bx i,.none,old]}
theorem Pj {it t:Addr}{i:Nat}{items:Array Value}{x:Value}{s:ae}{Q:Value->ae->Prop}(B:s.heap.IsTupleIter it t i)(G:s.heap.IsTuple t items)(hx:items[i]? = some x)
  (J:∀h',h'.IsTupleIter it t (i+1)->ba it s.heap h'->Q x {s with heap:=h'}):ag (af pg w) A (Builtin.SmallTypes.nextOf (.ref it)) Q E s:=by
 obtain⟨o,D,H,C⟩:x13:=id B;obtain(⟨L,lj,_,M,kR⟩):=G;unfold Builtin.SmallTypes.nextOf;refine aa (nI (name:=gT "__next__") B.typeIs F.slot_tuple_iterator_next (jj F.slot_tuple_iterator_next B.typeIs F.entry_tuple_iterator_next ?_ (F.args_tuple_iterator_next_1 _)));refine aa (m:=field (.ref it) 0) (bf D C (x:=.ref t) rfl ?_);rw[if_neg (show ¬((dZ t==Value.none)=true) from nt)];refine aa (m:=field (.ref it) 1) (bf D C (x:=.int i 0) rfl ?_);refine aa (m:=seqItems? (.ref t)) (wpAny_seqItems lj kR ?_);simp only[gh,hx];refine aa (lH D C (by simp) (ah ⟨x,rfl,ah (J _ ⟨_,eG _ D (Obj.isFreed_of_fields (Obj.data_mapFields C _)),(Obj.cls_mapFields ..).trans H,?_⟩ (gf ..))⟩));rw[(Obj.data_mapFields C)];simp[bx]
theorem M9 {it t:Addr}{i:Nat}{items:Array Value}{s:ae}{Q:Value->ae->Prop}(G:A.handled=none)(B:s.heap.IsTupleIter it t i)(H:s.heap.IsTuple t items)(hx:items[i]? = none)
  (J:∀h' e,gP it s.heap h'->(∃o,h'.get? e=some o/\o.cls = .type "StopIteration")->E (.ref e) {s with heap:=h'}):ag (af pg w) A (Builtin.SmallTypes.nextOf (.ref it)) Q E s:=by
 obtain⟨o,D,M,C⟩:x13:=id B;obtain(⟨L,lj,_,N,kR⟩):=H;unfold Builtin.SmallTypes.nextOf;refine aa (nI (name:=gT "__next__") B.typeIs F.slot_tuple_iterator_next (jj F.slot_tuple_iterator_next B.typeIs F.entry_tuple_iterator_next ?_ (F.args_tuple_iterator_next_1 _)));refine aa (m:=field (.ref it) 0) (bf D C (x:=.ref t) rfl ?_);rw[if_neg (show ¬((dZ t==Value.none)=true) from nt)];refine aa (m:=field (.ref it) 1) (bf D C (x:=.int i 0) rfl ?_);refine aa (m:=seqItems? (.ref t)) (wpAny_seqItems lj kR ?_);simp only[gh,hx];refine aa (fE (aa (lH D C (by simp) ?_)));refine aa (m:=newExc (.type "StopIteration") []) ?_;simp only[newExc,newTuple];refine aa (gN ?_ (by size_fits));refine aa (m:=firstArgMember _ _) (jk (a:=Value.none) (by first|rfl|(simp only[firstArgMember];rfl)) ?_);refine gN ?_ (by size_fits);simp only[raiseNew];refine aa (wpAny_handled ?_)
 first|rw[show A.in1.handled=none from G]|rw[(G)]
 refine aa (ah (wpAny_throw ?_));exact J _ _ (((gf ..).extBut.push _).push _) ⟨_,cj _ rfl,rfl⟩
theorem MP {e it t:Addr}{i:Nat}{items:Array Value}{x old:Value}{s:ae}{Q:Option Value->ae->Prop}(M:s.heap.get? e=some (bV .none it i old))(N:s.heap.IsTupleIter it t i)(n:s.heap.IsTuple t items)(hx:items[i]? = some x)(B:e≠it)
  (u:∀h',h'.get? e=some (bV (bx s.heap.objs.size) it ((i:Int)+1) x)->h'.IsTupleIter it t (i+1)->h'.get? s.heap.objs.size=some {cls:=.type "tuple",data:=.seq #[.int i s.toks,x]} ->
   (∀b o,b≠e->b≠it->s.heap.get? b=some o->h'.get? b=some o)->Q (some (.ref s.heap.objs.size)) {s with heap:=h',toks:=s.toks+1}):ag (af pg w) A (pyNext (.ref e)) Q E s:=by
 have h:s.TypeIs (.ref e) "enumerate":=⟨_,M,rfl⟩;unfold pyNext;refine aa (wpAny_attempt (nI (name:=gT "__next__") h F.slot_enumerate_next (jj F.slot_enumerate_next h F.entry_enumerate_next ?_ (F.args_enumerate_next_1 _))));obtain(⟨D,g,d,G,os⟩):=s;refine aa (m:=field (.ref e) 2) (bf M rfl (x:=.ref it) rfl ?_);refine aa (Pj N n hx λ Z Bk (T:ba it D Z)=>?_);have rV:Z.get? e=some (bV .none it i old):=(T.2 e B).trans M;refine aa (m:=field (.ref e) 3) (bf rV rfl (x:=bx i) rfl ?_);refine aa (m:=field (.ref e) 4) (bf rV rfl (x:=.none) rfl ?_);refine aa (m:=mkInt i) (wpAny_mkInt ?_);refine aa (m:=setField (.ref e) 3 (bx ((i:Int)+1))) (wpAny_setField_rec rV (by simp) λ U hO (I:ba e Z U)=>?_)
 replace hO:U.get? e=some (bV .none it ((i:Int)+1) old):=hO
 refine aa (m:=setField (.ref e) 4 .none) (wpAny_setField_rec hO (by simp) λ C qQ (R:ba e U C)=>?_)
 replace qQ:C.get? e=some (bV .none it ((i:Int)+1) old):=qQ
 refine aa (m:=newTuple [.int i G,x]) (wpAny_newTuple ?_);have J:C.objs.size=D.objs.size:=by rw[R.1,I.1,T.1]
 have p:∀b o,b≠e->b≠it->D.get? b=some o->C.get? b=some o:=λ b o H q2 z=>R.extBut b o H (I.extBut b o H (T.extBut b o q2 z))
 have TG:C.IsTupleIter it t (i+1):=by
  obtain⟨o,a,b⟩:=Bk;exact⟨o,R.extBut _ _ (Ne.symm B) (I.extBut _ _ (Ne.symm B) a),b⟩
 have vy:=bH {cls:=.type "tuple",data:=.seq #[.int i G,x]} qQ;have D7:(C.push {cls:=.type "tuple",data:=.seq #[.int i G,x]}).get? D.objs.size=some {cls:=.type "tuple",data:=.seq #[.int i G,x]}:=by rw[<-J];exact cj _ rfl
 have c:∀b o,b≠e->b≠it->D.get? b=some o->(C.push {cls:=.type "tuple",data:=.seq #[.int i G,x]}).get? b=some o:=λ b o H q2 z=>bH _ (p b o H q2 z)
 have EF:(C.push {cls:=.type "tuple",data:=.seq #[.int i G,x]}).IsTupleIter it t (i+1):=by
  obtain⟨o,a,b⟩:=TG;exact⟨o,bH _ a,b⟩
 have xr:D.objs.size≠e:=Ne.symm (aS (bP M));rw[J];generalize r:C.push {cls:=.type "tuple",data:=.seq #[.int i G,x]}=f at vy D7 c EF ⊢;refine aa (m:=Builtin.SmallTypes.ownedTupleIsFree (.ref e)) ?_;unfold Builtin.SmallTypes.ownedTupleIsFree;refine aa (bf vy rfl (x:=.none) rfl (ah ?_));simp only[if_true];refine aa (fE (aa (bf vy rfl (x:=old) rfl ?_)));refine aa (wpAny_setField_rec vy (by simp) λ Y y8 (k:ba e f Y)=>?_)
 replace y8:Y.get? e=some (bV .none it ((i:Int)+1) x):=y8
 unfold Builtin.SmallTypes.ownedTupleHandOut;refine aa (aa (wpAny_setField_rec y8 (by simp) λ V zv (j:ba e Y V)=>?_))
 replace zv:V.get? e=some (bV (bx D.objs.size) it ((i:Int)+1) x):=zv
 refine wpAny_setField_rec zv (by simp) λ L zS (l:ba e V L)=>?_
 replace zS:L.get? e=some (bV (bx D.objs.size) it ((i:Int)+1) x):=zS
 have O:∀b o,b≠e->f.get? b=some o->L.get? b=some o:=λ b o q z=>l.extBut b o q (j.extBut b o q (k.extBut b o q z))
 refine aa (wpAny_letGo (ah ⟨_,rfl,ah (u L zS ?_ (O _ _ xr D7) λ b o H q2 z=>O b o H (c b o H q2 z))⟩));obtain⟨o,a,b⟩:=EF;exact⟨o,O _ _ (Ne.symm B) a,b⟩
theorem Uk {e it t:Addr}{i:Nat}{items:Array Value}{old:Value}{s:ae}{Q:Option Value->ae->Prop}(L:A.handled=none)(D:s.heap.get? e=some (bV .none it i old))(B:s.heap.IsTupleIter it t i)(G:s.heap.IsTuple t items)(hx:items[i]? = none)
  (J:∀h',gP it s.heap h'->Q none {s with heap:=h'}):ag (af pg w) A (pyNext (.ref e)) Q E s:=by
 have C:s.TypeIs (.ref e) "enumerate":=⟨_,D,rfl⟩;unfold pyNext;refine aa (wpAny_attempt (nI (name:=gT "__next__") C F.slot_enumerate_next (jj F.slot_enumerate_next C F.entry_enumerate_next ?_ (F.args_enumerate_next_1 _))));refine aa (m:=field (.ref e) 2) (bf D rfl (x:=.ref it) rfl ?_);refine aa (M9 L B G hx λ h' x Aa qM=>?_);obtain⟨o,M,H⟩:=qM;refine aa (pG (T:="StopIteration") (b:=true) ⟨o,M,H⟩ isSubtype_stop ?_);exact ah (J _ Aa)
theorem XT {C:List aF}{pos:Pos}{e it a:Addr}{i:Int}{B:Value}{s:ae}{Q:Unit->ae->Prop}(D:s.heap.get? e=some (bV (bx a) it i B))
  (G:∀h',h'.get? e=some (bV .none it i B)->ba e s.heap h'->Q () {s with heap:=h'}):ag (af pg w) A (j3 (.Tuple C x1 pos) (.ref e) (.ref a)) Q E s:=
 wpAny_letOwnedTupleGo_enum D λ h' a b=>G h' a b
theorem Qm {M:Model}{A:aD}{Q:Bool->ae->Prop}(h:∀b,Q b s):ag M A (aq b) Q E s:=ah (h b)
set_option tactic.hygienic true in
theorem YA (l:Addr)(items:Array Value)(n:Nat):
  Meets (Builtin.«enumerate.__new__» ⟨[.type "enumerate",.ref l],[]⟩) (λ _ R s=>s.heap.get? l=some {cls:=.type "tuple",data:=.seq items n} /\
   R (.ok (.ret (.ref (s.heap.push {cls:=.type "tuple_iterator",data:=.fields #[.ref l,.int 0 0]}).objs.size)))
    {s with heap:=(s.heap.push {cls:=.type "tuple_iterator",data:=.fields #[.ref l,.int 0 0]}).push (bV .none s.heap.objs.size 0 .none)}):=
 .of_wp λ J w A R s h=>by
  obtain(⟨G,g,d,H,os⟩):=s;obtain⟨B,h⟩:x02:=h;have C:=sub_enumerate;have D:Heap.IsTuple (Shared.heap ⟨G,g,d,H,os⟩) l items:=⟨_,B,rfl,n,rfl⟩
  wp_walk using AutoSeq1.wpAny_loadPart' B
  refine wpAny_stack_any λ st=>Qm λ b=>?_
  cases b<;>(wp_walk using AutoSeq1.wpAny_loadPart' B,wpAny_pyIter_tuple D;exact⟨_,rfl,h⟩)
theorem Tr {l:Addr}{items:Array Value}{n:Nat}{s:ae}{Q:Value->ae->Prop}(C:s.heap.get? l=some {cls:=.type "tuple",data:=.seq items n})
  (h:Q (.ref (s.heap.objs.size+1)) {s with heap:=(s.heap.push {cls:=.type "tuple_iterator",data:=.fields #[.ref l,.int 0 0]}).push (bV .none s.heap.objs.size 0 .none)}):
  ag (af pg w) A (call (.type "enumerate") [.ref l]) Q E s:=by
 refine callType_new F.called_enumerate (by decide) (F.typeCall_enumerate_1 _) (F.newCall_enumerate_1 _) (λ obj=>F.args_object_init_2 obj _) F.entry_enumerate_new (YA l items n) ⟨C,?_⟩;have B:(s.heap.push {cls:=.type "tuple_iterator",data:=.fields #[.ref l,.int 0 0]}).objs.size=s.heap.objs.size+1:=Heap.size_push ..;show _/\_;rw[B];refine⟨⟨bV .none s.heap.objs.size 0 .none,?_,rfl⟩,h⟩;have:=cj (s.heap.push {cls:=.type "tuple_iterator",data:=.fields #[.ref l,.int 0 0]}) (o:=bV .none s.heap.objs.size 0 .none) rfl;rw[B] at this;exact this
theorem OK.Rx (k:OK pg w V ew st I ρ s)(D:I a=some oa)(H:I b=some ob)(C:a≠b)(G:¬iW oa)(N:∀u,oa.data≠.cell u)(EN:rg ob)(M:V a=none)(L:V b=none):
  OK pg w V ew st ((I.del a).del b) ρ s/\Sc ew st ((I.del a).del b) ρ a/\Sc ew st ((I.del a).del b) ρ b:=by
 obtain⟨J,B⟩:x02:=k.AX D G N M;obtain⟨O,R⟩:x02:=J.AX ((Im.xE C.symm).trans H) EN.seq EN.cell L;exact⟨O,⟨Im.wi B.im,B.gB,B.fr,B.fs⟩,R⟩
theorem Sc.put (O:Sc ew st I ρ a)(h:a≠b):Sc ew st (I.put b o) ρ a:=⟨(Im.jR h).trans O.im,O.gB,O.fr,O.fs⟩
noncomputable def xw:Nat->List PV->List PV
 |_,[]=>[]
 |i,x::xs=>.tup [.int i,x]::xw (i+1) xs
theorem QO:¬iW (bV z it i old):=by
 intro h;unfold iW bV at h
 rcases h with e|e|e|e
 .exact absurd (Value.type.inj e) (by decide)
 .exact absurd (Value.type.inj e) (by decide)
 .exact absurd (Value.type.inj e) (by decide)
 .exact nt e
theorem UX:∀u,(bV z it i old).data≠.cell u:=λ u e=>by cases e
theorem Wd (k:OK pg w V ew st I ρ s)(L:s.heap.objs.size<=T)(B:e≠it)(tB:e≠T)(N8:it≠T)(G:Sc ew st I ρ e)(H:Sc ew st I ρ it)
  (M:h'.get? e=some oe) (Y:h'.get? it=some oi) (U:h'.get? T=some ot) (N:∀b o,b≠e->b≠it->s.heap.get? b=some o->h'.get? b=some o):
  OK pg w V ew st (((I.put T ot).put e oe).put it oi) ρ {s with heap:=h',toks:=tk}/\nw I (((I.put T ot).put e oe).put it oi):=by
 have D:=dE k L;have Z:OK pg w V ew st I ρ {s with heap:=h',toks:=tk}:=
  k.beside (X:=λ a=>a=e\/a=it) (λ a C O J=>⟨C,N a C (λ q=>J (.inl q)) (λ q=>J (.inr q)) O,rfl,λ _ _=>rfl⟩) (λ a R=>R.elim (λ q=>q▸G) (λ q=>q▸H))
 have E7:=G.put (o:=ot) tB;have GV:=(H.put (o:=ot) N8).put (o:=oe) B.symm;exact⟨((Z.freeze D U).freeze E7 M).freeze GV Y,((Fa D.im).trans (Fa E7.im)).trans (Fa GV.im)⟩
theorem Sw (hh:A.handled=none)(zE:V e=none)(zI:V it=none)(B:e≠it):∀(ys:List PV) {j:Nat}{st I C s old},xs.drop j=ys->I tt=some {cls:=.type "tuple",data:=.seq (aM items) nn}->lm I C xs items ->
  s.heap.get? e=some (bV .none it j old)->s.heap.IsTupleIter it tt j->Sc ew st I C e->Sc ew st I C it->OK pg w V ew st I C s->jI pg w V A ew Hd (.Tuple ts x1 tpos) (.ref e) (xw j ys) st I C s:=by
 intro ys
 induction ys with
 |nil=>exact λ{_ _ _ _ s _} eM M J N D L G k _ Q E q=>Uk hh N D ⟨_,k.inv.lw _ _ M,rfl,_,rfl⟩ (by rw[gR];exact lG (J.length▸uI.mp eM)) λ f hx=>q _ (k.ext (tk:=s.toks) hx G) rfl
 |cons y ys ih=>
  intro j st I C s old eM M J N D L G k _ Q E q;apply bd;intro H;obtain⟨v,hv,QJ⟩:=J.get (jS eM);apply H;refine MP N D ⟨_,k.inv.lw _ _ M,rfl,_,rfl⟩ (gR.trans hv) B λ f z z2 z3 X=>q _ _ λ Q E q=>XT z λ h2 y1 (R:ba e f h2)=>?_
  apply bd;intro H;obtain⟨c,g1,g,U⟩:x13:=z2;have tB:e≠s.heap.objs.size:=aS (bP N);obtain⟨k2,O⟩:x02:=Wd (tk:=s.toks+1) k (aJ _) B tB (aS (by obtain⟨_,p,_⟩:=D;exact bP p)) L G y1 (R.extBut _ _ B.symm g1) (R.extBut _ _ tB.symm z3) λ b o r q2 h=>R.extBut b o r (X b o r q2 h)
  apply H;have m:=Fa (o:=c) (((G.put (o:={cls:=.type "tuple",data:=.seq #[.int j s.toks,v]}) (aS (by obtain⟨_,p,_⟩:=D;exact bP p))).put (o:=bV .none it ((j:Int)+1) v) B.symm).im);have l2:=(Fa (o:=bV .none it ((j:Int)+1) v) ((L.put (o:={cls:=.type "tuple",data:=.seq #[.int j s.toks,v]}) tB).im)).trans m;refine q _ _ O k2 rfl (.tup (items:=[.int j s.toks,v]) (n:=0) (l2 _ _ Im.XV) (.cons (.int _ _) (.cons (QJ.mono O (.refl _)) .nil))) λ fM I5 ρ5 s5 a b T=>?_
  have Z:=a _ _ (m _ _ Im.XV);have d:=a _ _ Im.XV;apply bd;intro H;obtain⟨Y,u,O2⟩:x03:=T.Rx Z d B QO UX (fN g U (by decide)) zE zI;apply H;have BC:=Im.wN G.im (Im.wN L.im (O.trans a));exact⟨_,BC,Y,ih (j:=j+1) (by rw[<-List.drop_drop,eM];rfl) (BC _ _ M) (J.mono BC b) (T.inv.lw _ _ Z) ⟨c,T.inv.lw _ _ d,g,U⟩ u O2 Y⟩
theorem SJ.L6 {arg sf}(hh:A.handled=none)(h1:EJ pg w V A ew func st al (.typ "enumerate"))(Jh:am pg w V A ew [arg] al bi [.tup xs])(h3:FJ pg w V A ew (λ _=>True) (.Tuple ts x1 tpos) body orelse (xw 0 xs) bi lv f)
  (c:eval (.Call func [arg] [] sf) ew=(do du sf (<-eval func ew) [] (backTo sf (starEach [arg] ew)) []):=by rfl)
  (X:∀x,iD (.Call func [arg] [] sf) ew x=aq x:=by intro _;rfl):SJ pg w V A ew (.For (.Tuple ts x1 tpos) (.Call func [arg] [] sf) body orelse pos) st lv f:=λ I ρ s Q E k q=>by
 refine wpAny_For ?_ X;rw[c];refine aa (h1 _ _ _ _ _ k λ I0 p s0 v a0 m U Y hv=>?_);obtain rfl:=hv.inv;refine PySem.callWith_type (jV (js Jh).1) (fV Jh U λ d J B us o g C y KM=>?_);apply bd;intro nk;obtain⟨u,rfl,z⟩:=cz KM;obtain⟨G,H,nn,rfl,N,Z⟩:=z.inv;apply nk;refine Tr (C.inv.lw _ _ N) ?_;generalize D:(B.heap.push {cls:=.type "tuple_iterator",data:=.fields #[.ref G,.int 0 0]}).push (bV .none B.heap.objs.size 0 .none)=H1;have r:Pi B.heap H1:=λ a ob e=>by rw[<-D];exact bH _ (bH _ e)
 have R:H1.get? (B.heap.objs.size+1)=some (bV .none B.heap.objs.size ((0:Nat):Int) .none):=by
  rw[<-D,<-Heap.size_push B.heap {cls:=.type "tuple_iterator",data:=.fields #[.ref G,.int 0 0]}];exact cj _ rfl
 have j:H1.IsTupleIter B.heap.objs.size G 0:=⟨_,by rw[<-D];exact bH _ (cj _ rfl),rfl,rfl⟩;refine wpAny_pyIter_enum (it:=B.heap.objs.size) (i:=0) (old:=.none) R ?_;have L:=dE C (Nat.le_succ B.heap.objs.size);have T:=dE C (aJ B.heap.objs.size);have O:OK pg w V ew bi d J {B with heap:=H1}:=C.grow r;exact h3.run O (Sw hh (C.zero L.im) (C.zero T.im) (Nat.succ_ne_self _) xs rfl N Z R j L T O) (q.at (a0.trans o) (m.trans g) (y.trans Y))
noncomputable def gG:List (List (Int×Str)):=[[(40960,"l"),(49152,"s"),(32768,"-"),(24576,"b"),(16384,"d"),(8192,"c"),(4096,"p")],[(256,"r")],[(128,"w")],[(2112,"s"),(2048,"S"),(64,"x")],[(32,"r")],[(16,"w")],[(1032,"s"),(1024,"S"),(8,"x")],[(4,"r")],[(2,"w")],[(513,"t"),(512,"T"),(1,"x")]]
noncomputable def zP (t:List (Int×Str)):PV:=.tup (t.map λ p=>.tup [.int p.1,.str p.2])
noncomputable def y7:PV:=.tup (gG.map zP)
noncomputable def dg (i:Nat)(m b:Int):Bool:=if i=0 then j2 m 61440==b else j2 m b==b
noncomputable def Tl (i:Nat)(m:Int):List (Int×Str)->Str
 | []=>if i=0 then "?" else "-"
 |(b,c)::t=>if dg i m b then c else Tl i m t
noncomputable def gK (m:Int):Nat->List (List (Int×Str))->List Str
 |_,[]=>[]
 |i,t::ts=>Tl i m t::gK m (i+1) ts
theorem Wg:∀(l:List Str) (a:Array Nat),(l.foldl (λ B p=>B++(#[]:Array Nat)++p.cps) a).toList=a.toList++l.flatMap (·.cps.toList):=by
 intro C
 induction C with
 |nil=>
  intro a
  simp
 |cons x l D=>
  intro a;rw[List.foldl_cons,D];simp
theorem zB (xs:List Str):(d9 ⟨#[]⟩ xs).cps.toList=xs.flatMap (·.cps.toList):=by
 unfold d9;rw[Wg]
 cases xs with
 |nil=>rfl
 |cons x r=>rfl
theorem BY (xs:List Str):(d9 ⟨#[]⟩ xs).length=(xs.map (·.length)).sum:=by
 show(d9 ⟨#[]⟩ xs).cps.size=_;rw[<-ed,zB,List.length_flatMap]
 rfl
theorem H9 (xs:List Str):xs.toArray.foldl (· + ·.length+(⟨#[]⟩:Str).length) 0=(xs.map (·.length)).sum:=by
 have B:∀(l:List Str) (n:Nat),l.foldl (λ n x=>n+x.length+(⟨#[]⟩:Str).length) n=n+(l.map (·.length)).sum:=by
  intro l
  induction l with
  |nil=>intro n;rfl
  |cons x l C=>intro n;rw[List.foldl_cons,C,aL,lZ];show n+x.length+0+_=_;lia
 rw[List.foldl_toArray,B,lP]
theorem ED:∀{xs:List Str},(∀x∈xs,x.length=1)->(xs.map (·.length)).sum=xs.length:=by
 intro B
 induction B with
 |nil=>
  intro _;exact rfl
 |cons x xs D=>
  intro h;have G:=h x (aN ..);have C:=D λ y H=>h y (aT _ H)
  rw[aL,lZ,G,C,cN];exact iG ..
structure i0 (w:aA)(V:Im)(mg mb:Str->Option Value) extends Top2 w V mg mb where
 tab:Addr
 EZ:mg "_filemode_table"=some (.ref tab)
 Jm:ce V [] y7 (.ref tab)
theorem D9 {m:Int}{ph:List PO}(G:Top1 w V mg mb):nb pp w V 1 (G.fn 27) [.int m] [] ph ph (.int (j2 m 61440)):=by
 have D:=G.d 27;refine nb.of_body (loc:=[("mode",.int m)]) (fl:=.ret (.int (j2 m 61440))) (ln:=[("mode",.int m)]) G.T D.fn (re.p1 λ u=>D.binds λ _=>rfl) (D.locs ["mode"] (by decide) rfl) ?_;intro A L B R C;have K:=D.mt (L:=L);exact XJ.ret (SJ.ret (EJ.bin (EJ.loc rfl (D.kind rfl) K) EJ.ci BJ.and_int))
noncomputable def Bq:aC:=gl (ay (sA 48)) 1
noncomputable def qY:aC:=gl (bo Bq) 0
noncomputable def Vl (s:aC):List aC:=dh s 1
noncomputable def gH (m:Int)(n i:Nat)(t:List (Int×Str)):List (Str×PV):=[("table",zP t),("index",.int i),("perm",.ref n),("mode",.int m)]
theorem Rg {m:Int}{n i:Nat}{t0:List (Int×Str)}{B:List Str}{ph:List PO}(G:Top1 w V mg mb)(M:ph[n]? = some (.list (B.map .str)))(Z:B.length<=20)(A:aD)(L:Addr)(fs:List (Addr×Data))(T:wn A 1)(C:Ctx A (callEnvC (G.fd 48) L (G.fn 48)) fs):
  ∀t:List (Int×Str),FJ pp w V A (callEnvC (G.fd 48) L (G.fn 48)) (λ _=>True) (jb qY) (bo qY) (Vl qY) (t.map λ p=>.tup [.int p.1,.str p.2]) ⟨gH m n i t0,ph,fs⟩ ⟨gH m n i t0,ph.set n (.list ((B++[Tl i m t]).map .str)),fs⟩ .next:=by
 intro E
 induction E with
 |nil=>
  have D:=G.d 48;have K:=D.mt (L:=L);refine FJ.done trivial ?_;have O:(B.map PV.str).length<=aH:=by rw[aE,ak];exact ww Z rfl
  by_cases J:i=0
  .subst J;exact XJ.cons (SJ.iff (b:=true) (TJ.li (EJ.loc rfl (D.kind rfl) K) EJ.ci CJ.eq_int) (XJ.mQ _ (XJ.cons (SJ.expr K (EJ.io (EJ.loc rfl (D.kind rfl) K) (on.append M) (am.cons EJ.cs am.nil) (ds.append M O))) XJ.nil) (by rw[aY];rfl))) XJ.nil
  .have mw:(((i:Nat):Int)==0)=false:=by rw[(beq_eq_false_iff_ne)];lia
   rw[show Tl i m []="-" from if_neg J];exact XJ.cons (SJ.iff (b:=false) (mw▸TJ.li (EJ.loc rfl (D.kind rfl) K) EJ.ci CJ.eq_int) (XJ.mQ _ (XJ.cons (SJ.expr K (EJ.io (EJ.loc rfl (D.kind rfl) K) (on.append M) (am.cons EJ.cs am.nil) (ds.append M O))) XJ.nil) (by rw[aY];rfl))) XJ.nil
 |cons d t U=>
  obtain(⟨b,c⟩):=d;have D:=G.d 48;have K:=D.mt (L:=L);have U:=U;obtain⟨f,KB,cy⟩:=(G.d 27).fn.at_;have I:AJ pp w V A (callEnvC (G.fd 48) L (G.fn 48)) (jb qY) (.tup [.int b,.str c]) ⟨gH m n i t0,ph,fs⟩ ⟨("char",.str c)::("bit",.int b)::gH m n i t0,ph,fs⟩:=AJ.kE T.handled (.cons (AJ.name K (.inl (D.kind rfl))) (.cons (AJ.name K (.inl (D.kind rfl))) .nil rfl) rfl);have Q:aw (gH m n i t0) (("char",.str c)::("bit",.int b)::gH m n i t0):=aw.cons rfl (aw.cons rfl (aw.cons rfl (aw.cons rfl .nil)));have R:dg i m b=true->XJ pp w V A (callEnvC (G.fd 48) L (G.fn 48)) (bo qY) ⟨("char",.str c)::("bit",.int b)::gH m n i t0,ph,fs⟩ ⟨gH m n i t0,ph.set n (.list ((B++[c]).map .str)),fs⟩ .brk:=λ H=>by
   refine XJ.sw (al:=⟨("char",.str c)::("bit",.int b)::gH m n i t0,ph.set n (.list ((B++[c]).map .str)),fs⟩) ?_ Q;have O:(B.map PV.str).length<=aH:=by rw[aE,ak];exact ww Z rfl
   by_cases J:i=0
   .subst J;have H:(j2 m 61440==b)=true:=H;exact XJ.stop (SJ.iff (b:=true) (TJ.li (EJ.loc rfl (D.kind rfl) K) EJ.ci CJ.eq_int) (XJ.stop (SJ.iff (b:=true) (H▸TJ.li (EJ.bq (EJ.top G K 27 rfl (D.kind rfl)) KB cy (am.cons (EJ.loc rfl (D.kind rfl) K) am.nil) (D9 G) T C.cw) (EJ.loc rfl (D.kind rfl) K) CJ.eq_int) (XJ.mQ _ (XJ.cons (SJ.expr K (EJ.io (EJ.loc rfl (D.kind rfl) K) (on.append M) (am.cons (EJ.loc rfl (D.kind rfl) K) am.nil) (ds.append M O))) (XJ.stop SJ.brk (by intro e;cases e))) (by rw[aY];rfl))) (by intro e;cases e))) (by intro e;cases e)
   .have H:(j2 m b==b)=true:=by unfold dg at H;rwa [if_neg J] at H
    have mw:(((i:Nat):Int)==0)=false:=by rw[(beq_eq_false_iff_ne)];lia
    exact XJ.stop (SJ.iff (b:=false) (mw▸TJ.li (EJ.loc rfl (D.kind rfl) K) EJ.ci CJ.eq_int) (XJ.stop (SJ.iff (b:=true) (H▸TJ.li (EJ.bin (EJ.loc rfl (D.kind rfl) K) (EJ.loc rfl (D.kind rfl) K) BJ.and_int) (EJ.loc rfl (D.kind rfl) K) CJ.eq_int) (XJ.mQ _ (XJ.cons (SJ.expr K (EJ.io (EJ.loc rfl (D.kind rfl) K) (on.append M) (am.cons (EJ.loc rfl (D.kind rfl) K) am.nil) (ds.append M O))) (XJ.stop SJ.brk (by intro e;cases e))) (by rw[aY];rfl))) (by intro e;cases e))) (by intro e;cases e)
  have N:dg i m b=false->XJ pp w V A (callEnvC (G.fd 48) L (G.fn 48)) (bo qY) ⟨("char",.str c)::("bit",.int b)::gH m n i t0,ph,fs⟩ ⟨gH m n i t0,ph,fs⟩ .next:=λ H=>by
   refine XJ.sw (al:=⟨("char",.str c)::("bit",.int b)::gH m n i t0,ph,fs⟩) ?_ Q
   by_cases J:i=0
   .subst J;have H:(j2 m 61440==b)=false:=H;exact XJ.cons (SJ.iff (b:=true) (TJ.li (EJ.loc rfl (D.kind rfl) K) EJ.ci CJ.eq_int) (XJ.cons (SJ.iff (b:=false) (H▸TJ.li (EJ.bq (EJ.top G K 27 rfl (D.kind rfl)) KB cy (am.cons (EJ.loc rfl (D.kind rfl) K) am.nil) (D9 G) T C.cw) (EJ.loc rfl (D.kind rfl) K) CJ.eq_int) XJ.nil) XJ.nil)) XJ.nil
   .have H:(j2 m b==b)=false:=by unfold dg at H;rwa [if_neg J] at H
    have mw:(((i:Nat):Int)==0)=false:=by rw[(beq_eq_false_iff_ne)];lia
    exact XJ.cons (SJ.iff (b:=false) (mw▸TJ.li (EJ.loc rfl (D.kind rfl) K) EJ.ci CJ.eq_int) (XJ.cons (SJ.iff (b:=false) (H▸TJ.li (EJ.bin (EJ.loc rfl (D.kind rfl) K) (EJ.loc rfl (D.kind rfl) K) BJ.and_int) (EJ.loc rfl (D.kind rfl) K) CJ.eq_int) XJ.nil) XJ.nil)) XJ.nil
  rw[aL];rw[show Tl i m ((b,c)::t)=if dg i m b then c else Tl i m t from rfl]
  cases Y:dg i m b with
  |true=>rw[if_pos rfl];exact FJ.brk trivial I (R Y)
  |false=>rw[if_neg (by decide)];exact FJ.next trivial I (N Y) (.inl rfl) U
theorem MN {m:Int}{n:Nat}(G:Top1 w V mg mb)(A:aD)(L:Addr)(fs:List (Addr×Data))(R:wn A 1)(C:Ctx A (callEnvC (G.fd 48) L (G.fn 48)) fs):
  ∀(N:List (List (Int×Str))) (i:Nat) (B:List Str) (base:List PO),base.length=n->B.length+N.length<=20 ->
   FJ pp w V A (callEnvC (G.fd 48) L (G.fn 48)) (λ _=>True) (jb Bq) (bo Bq) [] (xw i (N.map zP)) ⟨[("perm",.ref n),("mode",.int m)],base++[.list (B.map .str)],fs⟩ ⟨[("perm",.ref n),("mode",.int m)],base++[.list ((B++gK m i N).map .str)],fs⟩ .next:=by
 intro T
 induction T with
 |nil=>
  intro i B base M O;rw[show gK m i []=[] from rfl,nC];exact FJ.done trivial XJ.nil
 |cons t N J=>
  intro i B base M O;have D:=G.d 48;have K:=D.mt (L:=L);have J:=J (i+1) (B++[Tl i m t]) base M (by simp at O ⊢;lia);rw[eH] at J;have U:(base++[PO.list (B.map .str)])[n]? = some (.list (B.map .str)):=by rw[<-M];simp
  have H:=Rg (m:=m) (i:=i) (t0:=t) G U (zg O) A L fs R C t;rw[show(base++[PO.list (B.map .str)]).set n (.list ((B++[Tl i m t]).map .str))=base++[.list ((B++[Tl i m t]).map .str)] by rw[<-M];simp] at H;refine FJ.next trivial (AJ.kE R.handled (.cons (AJ.name (x:="index") K (.inl (D.kind rfl))) (.cons (AJ.name (x:="table") K (.inl (D.kind rfl))) .nil rfl) rfl)) (bi:=⟨[("perm",.ref n),("mode",.int m)],base++[.list ((B++[Tl i m t]).map .str)],fs⟩) ?_ (.inl rfl) J;exact XJ.sw (l:=[("perm",.ref n),("mode",.int m)]) (al:=⟨gH m n i t,base++[.list ((B++[Tl i m t]).map .str)],fs⟩) (XJ.cons (SJ.for R.handled (EJ.loc (x:="table") rfl (D.kind rfl) K) rc.tup H) XJ.nil) (aw.cons rfl (aw.cons rfl .nil))
noncomputable def qv (m:Int):Str:=d9 ⟨#[]⟩ (gK m 0 gG)
theorem Oj (i:Nat)(m:Int):∀t:List (Int×Str),(∀p∈t,p.2.length=1)->(Tl i m t).length=1:=by
 intro C
 induction C with
 |nil=>
  intro _;show(ite _ _ _:Str).length=_;split<;>rfl
 |cons G t D=>
  obtain(⟨b,c⟩):=G;intro h;show(ite _ _ _:Str).length=_
  split
  .exact h _ (aN ..)
  .exact D λ p B=>h p (aT _ B)
theorem WC (m:Int):∀x∈gK m 0 gG,x.length=1:=by
 intro x B;have D:∀(C:List (List (Int×Str))) (i:Nat),(∀t∈C,∀p∈t,p.2.length=1)->∀x∈gK m i C,x.length=1:=by
  intro C
  induction C with
  |nil=>intro i _ x B;cases B
  |cons t C G=>
   intro i h x B
   rcases aG.mp B with rfl|B
   .exact Oj i m t (h t (aN ..))
   .exact G (i+1) (λ t H=>h t (aT _ H)) x B
 exact D gG 0 (by decide) x B
theorem Nt {m:Int}{ph:List PO}(G:i0 w V mg mb):nb pp w V 2 (G.fn 48) [.int m] [] ph (ph++[.list ((gK m 0 gG).map .str)]) (.str (qv m)):=by
 have D:=G.d 48;refine nb.of_body (loc:=[("mode",.int m)]) (fl:=.ret (.str (qv m))) (ln:=[]) G.T D.fn (re.p1 λ u=>D.binds λ _=>rfl) (D.locs ["mode"] (by decide) rfl) ?_;intro A L H R C;have K:=D.mt (L:=L);have vw:=MN (m:=m) (n:=ph.length) G.toTop1 A L H R C gG 0 [] ph rfl (by decide);rw[jo] at vw;have B:∀x∈gK m 0 gG,x.length=1:=WC m;have PH:(ph++[PO.list ((gK m 0 gG).map .str)])[ph.length]? = some (.list ((gK m 0 gG).map .str)):=by simp
 refine XJ.drop (XJ.cons (SJ.assign K (.inl (D.kind rfl)) (EJ.wX am.nil (by rw[ak];simp))) (XJ.cons (SJ.L6 R.handled (EJ.builtin G.toTop1 K (λ _ _=>.typ _) (D.kind rfl)) (am.cons (EJ.glob G.T K (D.kind rfl) G.EZ (λ I M J=>?_)) am.nil) vw) (XJ.ret (SJ.ret (EJ.io EJ.cs on.join (am.cons (EJ.loc rfl (D.kind rfl) K) am.nil) (ds.Ml PH rfl ?_ ?_))))))
 .have:ce I ([]++M) y7 (.ref G.tab):=G.Jm.mono J (λ n x h=>by cases h);exact this
 .show rE ((gK m 0 gG).toArray.foldl (· + ·.length+(⟨#[]⟩:Str).length) 0)=false;rw[H9,ED B];rfl
 .show(d9 ⟨#[]⟩ (gK m 0 gG)).length<=_;rw[BY,ED B,ak];show 10<=_
  decide
noncomputable def dB:List (Int×Str):=[(32768,"-"),(16384,"d"),(40960,"l"),(49152,"s")]
noncomputable def fx (m:Int):Str:=match dB.lookup (m.fdiv 4096 * 4096) with|some c=>c|none=>"?"
noncomputable def dj (m:Int)(k:Nat):Int:=(m.fdiv (8 ^ (2 - k))).fmod 8
noncomputable def ownOf (m:Int)(k:Nat):Int:=((m.fdiv 512).fdiv (2 ^ (2 - k))).fmod 2
noncomputable def kF (k:Nat):List Str:=["-","x",⟨#[([83,83,84]:List Nat).getD k 0]⟩,⟨#[([115,115,116]:List Nat).getD k 0]⟩]
noncomputable def cx (m:Int)(k:Nat):Str:=(kF k).getD ((dj m k).fmod 2+2 * ownOf m k).toNat default
noncomputable def cT (m:Int)(k:Nat):Str:=if (dj m k).fdiv 4==1 then "r" else "-"
noncomputable def cU (m:Int)(k:Nat):Str:=if ((dj m k).fdiv 2).fmod 2==1 then "w" else "-"
noncomputable def ek (m:Int):Nat->Str
 |0=>fx m
 |k+1=>((ek m k++cT m k)++cU m k)++cx m k
theorem Ac (m:Int)(k:Nat):0<=(dj m k).fmod 2+2 * ownOf m k/\(dj m k).fmod 2+2 * ownOf m k<4:=by
 have G:=lX (dj m k) (show(0:Int)<2 by decide);have D:=nK (dj m k) (show(0:Int)<2 by decide);have B:=lX ((m.fdiv 512).fdiv (2 ^ (2 - k))) (show(0:Int)<2 by decide);have C:=nK ((m.fdiv 512).fdiv (2 ^ (2 - k))) (show(0:Int)<2 by decide);unfold ownOf;exact⟨Int.add_nonneg G (Int.mul_nonneg (by decide) B),Int.lt_of_le_of_lt (Int.add_le_add (Int.le_of_lt_add_one (b:=1) D) (Int.mul_le_mul_of_nonneg_left (Int.le_of_lt_add_one (b:=1) C) (by decide))) (by decide)⟩
theorem IT (m:Int)(k:Nat):(cx m k).length=1:=by
 unfold cx;have:=Ac m k;have h:((dj m k).fmod 2+2 * ownOf m k).toNat<4:=(Int.toNat_lt this.1).mpr this.2;generalize ((dj m k).fmod 2+2 * ownOf m k).toNat=n at h;have:n=0\/n=1\/n=2\/n=3:=(by decide:∀n,n<4->n=0\/n=1\/n=2\/n=3) n h
 rcases this with rfl|rfl|rfl|rfl<;>rfl
set_option tactic.hygienic true in
theorem TQ (m:Int):(fx m).length=1:=by
 unfold fx
 split
 .rename_i c h
  have B:∀p∈dB,p.2.length=1:=by decide
  exact xK (P:=λ _ c=>c.length=1) B h
 .rfl
theorem W5 (m:Int):∀k,(ek m k).length=1+3 * k:=by
 intro B
 induction B with
 |zero=>
  exact TQ m
 |succ k C=>
  show(((ek m k++cT m k)++cU m k)++cx m k).length=_;rw[iy,iy,iy,C,IT];have D:(cT m k).length=1:=by unfold cT;split<;>rfl
  have G:(cU m k).length=1:=by unfold cU;split<;>rfl
  lia
section
theorem XM:Builtin.Int.intBits 2=2:=by decide
theorem TJ.of_eq (h:TJ pg w V A ew e st al b)(B:b=b'):TJ pg w V A ew e st al b':=B▸h
theorem Yk (z:Int):(dB.map λ p=>(p.1,PV.str p.2)).lookup z=(dB.lookup z).map .str:=by
 have:∀l:List (Int×Str),(l.map λ p=>(p.1,PV.str p.2)).lookup z=(l.lookup z).map .str:=by
  intro l
  induction l with
  |nil=>rfl
  |cons p l B=>
   rw[aL,cK,cK];cases z==p.1
   .exact B
   .rfl
 exact this dB
noncomputable def gu (m:Int):List (Str×PV):=[("kinds",.eT (dB.map λ p=>(p.1,.str p.2))),("octal",.int m)]
noncomputable def Uh:aF:=sub (sub (KT (gl (ay (sA 54)) 1) 0) 0) 0
noncomputable def Tf:aF:=sub (KT (gl (ay (sA 54)) 1) 0) 1
noncomputable def UP:aF:=sub (KT (gl (ay (sA 54)) 1) 0) 0
section
variable {fd:aU}{L f:Addr}{ph:List PO}{fs:List (Addr×Data)}{m:Int}
theorem Qq (K:ut (callEnvC (gt fd (sA 54)) L f)):EJ pp w V A (callEnvC (gt fd (sA 54)) L f) Uh ⟨gu m,ph,fs⟩ ⟨gu m,ph,fs⟩ (.int (m.fdiv 4096 * 4096)):=
 EJ.bin (EJ.bin (EJ.loc rfl rfl K) EJ.ci (BJ.floordiv_int (by decide) (by decide))) EJ.ci (BJ.mul_int (.of_right (by decide)))
theorem Hz (G:Top1 w V mg mb)(K:ut (callEnvC (gt fd (sA 54)) L f)):TJ pp w V A (callEnvC (gt fd (sA 54)) L f) UP ⟨gu m,ph,fs⟩ ⟨gu m,ph,fs⟩ (((dB.map λ p=>(p.1,PV.str p.2)).lookup (m.fdiv 4096 * 4096)).isSome):=
 TJ.li (Qq K) (EJ.loc rfl rfl K) (CJ.Wp (k0:=32768) (x0:=.str "-") (es:=[(16384,.str "d"),(40960,.str "l"),(49152,.str "s")]) G.mods)
theorem U7 (K:ut (callEnvC (gt fd (sA 54)) L f))(h:(dB.map λ p=>(p.1,PV.str p.2)).lookup (m.fdiv 4096 * 4096)=some x):EJ pp w V A (callEnvC (gt fd (sA 54)) L f) Tf ⟨gu m,ph,fs⟩ ⟨gu m,ph,fs⟩ x:=
 EJ.sub (EJ.loc rfl rfl K) (EJ.bin (EJ.bin (EJ.loc rfl rfl K) EJ.ci (BJ.floordiv_int (by decide) (by decide))) EJ.ci (BJ.mul_int (.of_right (by decide)))) (GJ.eT h)
theorem YX (G:Top1 w V mg mb)(K:ut (callEnvC (gt fd (sA 54)) L f)):SJ pp w V A (callEnvC (gt fd (sA 54)) L f) (gl (ay (sA 54)) 1) ⟨gu m,ph,fs⟩ ⟨("signs",.str (fx m))::gu m,ph,fs⟩ .next:=by
 have C:az (callEnvC (gt fd (sA 54)) L f) "signs":=.inl rfl;have eB:=Yk (m.fdiv 4096 * 4096)
 cases B:dB.lookup (m.fdiv 4096 * 4096) with
 |none=>
  have e2:fx m="?":=by unfold fx;rw[B]
  rw[e2];exact SJ.assign K C (EJ.fq (b:=false) (TJ.of_eq (Hz G K) (by rw[eB,B];rfl)) EJ.cs)
 |some c=>
  have e2:fx m=c:=by unfold fx;rw[B]
  rw[e2];exact SJ.assign K C (EJ.fq (b:=true) (TJ.of_eq (Hz G K) (by rw[eB,B];rfl)) (U7 K (by rw[eB,B];rfl)))
noncomputable def kW:aC:=gl (ay (sA 54)) 2
noncomputable def tu (m:Int)(i:Nat):List (Str×PV):=[("k",.int i),("signs",.str (ek m i)),("octal",.int m)]
noncomputable def rm (m:Int)(i:Nat):List (Str×PV):=("three",.int (dj m i))::("own",.int (ownOf m i))::tu m i
theorem pW {i:Nat}(h:i<3):i=0\/i=1\/i=2:=by lia
theorem L3 {i:Nat}(hi:i<3)(K:ut (callEnvC (gt fd (sA 54)) L f)):EJ pp w V A (callEnvC (gt fd (sA 54)) L f) (KT (gl (bo kW) 0) 0) ⟨tu m i,ph,fs⟩ ⟨tu m i,ph,fs⟩ (.tup [.int (dj m i),.int (ownOf m i)]):=by
 have R:(8:Int) ^ ((2:Int) - i).toNat=8 ^ (2 - i):=congrArg ((8:Int) ^ ·) (Int.toNat_sub 2 i);have G:(2:Int) ^ ((2:Int) - i).toNat=2 ^ (2 - i):=congrArg ((2:Int) ^ ·) (Int.toNat_sub 2 i);have H:(8:Int) ^ ((2:Int) - i).toNat≠0:=Int.pow_ne_zero (by decide);have N:(2:Int) ^ ((2:Int) - i).toNat≠0:=Int.pow_ne_zero (by decide);have B:=pW hi;have O:((8:Int) ^ ((2:Int) - i).toNat).natAbs.log2<9000:=by rcases B with rfl|rfl|rfl<;>decide
 have J:((2:Int) ^ ((2:Int) - i).toNat).natAbs.log2<9000:=by rcases B with rfl|rfl|rfl<;>decide
 have D:(Builtin.Int.intBits 8:Int) * ((2:Int) - i)<=2 ^ 27:=by rw[show(Builtin.Int.intBits 8:Nat)=4 by decide];rcases B with rfl|rfl|rfl<;>decide
 have M:(Builtin.Int.intBits 2:Int) * ((2:Int) - i)<=2 ^ 27:=by rw[(XM)];rcases B with rfl|rfl|rfl<;>decide
 have C:(0:Int)<=(2:Int) - i:=by rcases B with rfl|rfl|rfl<;>decide
 unfold dj ownOf;rw[<-R,<-G];exact EJ.tuple (am.cons (EJ.bin (EJ.bin (EJ.loc rfl rfl K) (EJ.bin EJ.ci (EJ.bin EJ.ci (EJ.loc rfl rfl K) BJ.sub_int) (BJ.pow_int C D)) (BJ.floordiv_int H O)) EJ.ci (BJ.mod_int (by decide))) (am.cons (EJ.bin (EJ.bin (EJ.bin (EJ.loc rfl rfl K) EJ.ci (BJ.floordiv_int (by decide) (by decide))) (EJ.bin EJ.ci (EJ.bin EJ.ci (EJ.loc rfl rfl K) BJ.sub_int) (BJ.pow_int C M)) (BJ.floordiv_int N J)) EJ.ci (BJ.mod_int (by decide))) am.nil)) (by rw[ak];simp)
theorem VZ {i:Nat}(hi:i<3)(K:ut (callEnvC (gt fd (sA 54)) L f)):SJ pp w V A (callEnvC (gt fd (sA 54)) L f) (gl (bo kW) 1) ⟨rm m i,ph,fs⟩ ⟨("last",.str (cx m i))::rm m i,ph,fs⟩ .next:=by
 have J:az (callEnvC (gt fd (sA 54)) L f) "last":=.inl rfl;have C:=pW hi;have G:Txt.charAt ("SST" : Str) (i:Int)=some (([83,83,84]:List Nat).getD i 0):=by rcases C with rfl|rfl|rfl<;>rfl
 have H:Txt.charAt ("sst" : Str) (i:Int)=some (([115,115,116]:List Nat).getD i 0):=by rcases C with rfl|rfl|rfl<;>rfl
 have B:fitsSsize (i:Int)=true:=by rcases C with rfl|rfl|rfl<;>rfl
 have vY:=Ac m i;have oH:((kF i).map PV.str)[((dj m i).fmod 2+2 * ownOf m i).toNat]? = some (.str (cx m i)):=by
  unfold cx;rw[cM,rL,dc (show _<(kF i).length by show _<4;lia)]
  rfl
 have D:EJ pp w V A (callEnvC (gt fd (sA 54)) L f) (sub (KT (gl (bo kW) 1) 0) 0) ⟨rm m i,ph,fs⟩ ⟨rm m i,ph,fs⟩ (.lst ((kF i).map .str)):=
  EJ.list (am.cons EJ.cs (am.cons EJ.cs (am.cons (EJ.sub EJ.cs (EJ.loc rfl rfl K) (GJ.str B G)) (am.cons (EJ.sub EJ.cs (EJ.loc rfl rfl K) (GJ.str B H)) am.nil)))) (by rw[ak];simp[kF])
 generalize (kF i).map PV.str=ll at D oH;exact SJ.assign K J (EJ.sub D (EJ.bin (EJ.bin (EJ.loc rfl rfl K) EJ.ci (BJ.mod_int (by decide))) (EJ.bin EJ.ci (EJ.loc rfl rfl K) (BJ.mul_int (.of_left (by decide)))) BJ.add_int) (GJ.lst vY.1 (by lia) oH))
end
end
section
section
variable {fd:aU}{L f:Addr}{ph:List PO}{fs:List (Addr×Data)}{m:Int}
noncomputable def zG:aF:=KT (gl (bo kW) 2) 0
noncomputable def Eo:aF:=sub (sub (sub zG 0) 0) 1
noncomputable def HQ:aF:=sub (sub zG 0) 1
noncomputable def iZ (m:Int)(i:Nat):List (Str×PV):=("last",.str (cx m i))::rm m i
theorem V8 {i:Nat}(K:ut (callEnvC (gt fd (sA 54)) L f)):EJ pp w V A (callEnvC (gt fd (sA 54)) L f) Eo ⟨iZ m i,ph,fs⟩ ⟨iZ m i,ph,fs⟩ (.str (cT m i)):=by
 have t:TJ pp w V A (callEnvC (gt fd (sA 54)) L f) (sub Eo 0) ⟨iZ m i,ph,fs⟩ ⟨iZ m i,ph,fs⟩ ((dj m i).fdiv 4==1):=
  TJ.li (EJ.bin (EJ.loc rfl rfl K) EJ.ci (BJ.floordiv_int (by decide) (by decide))) EJ.ci CJ.eq_int
 unfold cT
 cases B:(dj m i).fdiv 4==1 with
 |true=>rw[if_pos rfl];exact EJ.fq (b:=true) (TJ.of_eq t B) EJ.cs
 |false=>rw[if_neg (by decide)];exact EJ.fq (b:=false) (TJ.of_eq t B) EJ.cs
theorem Pm {i:Nat}(K:ut (callEnvC (gt fd (sA 54)) L f)):EJ pp w V A (callEnvC (gt fd (sA 54)) L f) HQ ⟨iZ m i,ph,fs⟩ ⟨iZ m i,ph,fs⟩ (.str (cU m i)):=by
 have t:TJ pp w V A (callEnvC (gt fd (sA 54)) L f) (sub HQ 0) ⟨iZ m i,ph,fs⟩ ⟨iZ m i,ph,fs⟩ (((dj m i).fdiv 2).fmod 2==1):=
  TJ.li (EJ.bin (EJ.bin (EJ.loc rfl rfl K) EJ.ci (BJ.floordiv_int (by decide) (by decide))) EJ.ci (BJ.mod_int (by decide))) EJ.ci CJ.eq_int
 unfold cU
 cases B:((dj m i).fdiv 2).fmod 2==1 with
 |true=>rw[if_pos rfl];exact EJ.fq (b:=true) (TJ.of_eq t B) EJ.cs
 |false=>rw[if_neg (by decide)];exact EJ.fq (b:=false) (TJ.of_eq t B) EJ.cs
theorem Wx {i:Nat}(C:A.handled=none)(hi:i<3)(K:ut (callEnvC (gt fd (sA 54)) L f)):XJ pp w V A (callEnvC (gt fd (sA 54)) L f) (bo kW) ⟨tu m i,ph,fs⟩ ⟨[("signs",.str (ek m (i+1))),("octal",.int m)],ph,fs⟩ .next:=by
 have J:az (callEnvC (gt fd (sA 54)) L f) "three":=.inl rfl;have M:az (callEnvC (gt fd (sA 54)) L f) "own":=.inl rfl;have D:az (callEnvC (gt fd (sA 54)) L f) "signs":=.inl rfl;have H:(cT m i).length=1:=by unfold cT;split<;>rfl
 have G:(cU m i).length=1:=by unfold cU;split<;>rfl
 have lT:=W5 m i;have AQ:EJ pp w V A (callEnvC (gt fd (sA 54)) L f) zG ⟨iZ m i,ph,fs⟩ ⟨iZ m i,ph,fs⟩ (.str (ek m (i+1))):=
  EJ.bin (EJ.bin (EJ.bin (EJ.loc rfl rfl K) (V8 K) (BJ.add_str (by rw[ak];lia))) (Pm K) (BJ.add_str (by rw[ak,iy];lia))) (EJ.loc rfl rfl K) (BJ.add_str (by rw[ak,iy,iy,IT];lia))
 exact XJ.sw (al:=⟨("signs",.str (ek m (i+1)))::iZ m i,ph,fs⟩) (XJ.cons (SJ.mT (al:=⟨tu m i,ph,fs⟩) (bv:=⟨rm m i,ph,fs⟩) ["three","own"] K C (L3 hi K) rfl rfl (by intro y B;simp at B;rcases B with rfl|rfl<;>assumption) rfl rfl) (XJ.cons (VZ hi K) (XJ.cons (SJ.assign K D AQ) XJ.nil))) (aw.cons rfl (aw.cons rfl .nil))
noncomputable def zA:aF:=KT (gl (ay (sA 54)) 0) 0
noncomputable def wK:List (Option aF):=(qZ zA).2.2.2
noncomputable def wF:List aF:=(qZ zA).1
noncomputable def Bx:Pos:=zA.pos
noncomputable def Ad:Pos:=(KT (gl (ay (sA 54)) 0) 1).pos
noncomputable def AU:Pos:=(gl (ay (sA 54)) 0).pos
theorem Us:nM wK wF dB:=.cons (.cons (.cons (.cons .nil)))
theorem Vb:gl (ay (sA 54)) 0 = .Assign [.Name "kinds" Ad] (.Dict wK wF Bx) AU:=rfl
theorem WK (K:ut (callEnvC (gt fd (sA 54)) L f)):SJ pp w V A (callEnvC (gt fd (sA 54)) L f) (gl (ay (sA 54)) 0) ⟨[("octal",.int m)],ph,fs⟩ ⟨gu m,ph,fs⟩ .next:=by
 have G:az (callEnvC (gt fd (sA 54)) L f) "kinds":=.inl rfl;have C:swapsWith (.Dict wK wF Bx) (some (.Name "kinds" Ad)) AU.line (callEnvC (gt fd (sA 54)) L f)=aq false:=rfl;have h:=Us;have D:dB≠[]:=λ e=>by cases e
 have B:dB.length<=15:=eE rfl;have H:(dB.map (·.1)).Nodup:=by unfold dB;simp
 rw[Vb];unfold gu;generalize callEnvC (gt fd (sA 54)) L f=ew at *;generalize wK=ks at *;generalize wF=vs at *;generalize Bx=ps at *;generalize Ad=np at *;generalize AU=ap at *;generalize dB=l at *;exact SJ.assign K G (EJ.Ut l h D B H) C
set_option tactic.hygienic true in
theorem Wj (G:Top1 w V mg mb)(D:A.handled=none)(K:ut (callEnvC (gt fd (sA 54)) L f))(S:Nat->Str)
  (C:∀i:Nat,i<3->XJ pp w V A (callEnvC (gt fd (sA 54)) L f) (bo kW) ⟨[("k",.int i),("signs",.str (S i)),("octal",.int m)],ph,fs⟩ ⟨[("signs",.str (S (i+1))),("octal",.int m)],ph,fs⟩ .next):
  SJ pp w V A (callEnvC (gt fd (sA 54)) L f) kW ⟨[("signs",.str (S 0)),("octal",.int m)],ph,fs⟩ ⟨[("signs",.str (S 3)),("octal",.int m)],ph,fs⟩ .next:=by
 refine SJ.for D (EJ.fk (EJ.builtin G K (λ _ _=>.typ _) rfl) (am.cons EJ.ci am.nil) ds.ko) (rc.eh (by decide) (by decide) (by decide)) (FJ.steps (jc 0 3) (λ i=>⟨[("signs",.str (S i)),("octal",.int m)],ph,fs⟩) (λ i x B=>⟨trivial,?_⟩) trivial XJ.nil);rw[xu] at B
 split at B
 .rename_i H
  cases B;rw[show(0:Int)+(i:Int)=(i:Int) by lia]
  exact⟨_,AJ.name K (.inl rfl),C i H⟩
 .cases B
end
theorem Xk:ay (sA 54)=[gl (ay (sA 54)) 0,gl (ay (sA 54)) 1,gl (ay (sA 54)) 2,gl (ay (sA 54)) 3]:=rfl
theorem Yv {m:Int}{ph:List PO}(G:Top1 w V mg mb):nb pp w V 1 (G.fn 54) [.int m] [] ph ph (.str (ek m 3)):=by
 have D:=G.d 54;refine nb.of_body (loc:=[("octal",.int m)]) (fl:=.ret (.str (ek m 3))) (ln:=[]) G.T D.fn (re.p1 λ u=>D.binds λ _=>rfl) (D.locs ["octal"] (by decide) rfl) ?_;intro A L B R C;rw[D.gz] at C ⊢;have K:=D.hK (L:=L);generalize At:G.fd 54=fd at K C ⊢;generalize jX:G.fn 54=f at K C ⊢;have O:az (callEnvC (gt fd (sA 54)) L f) "kinds":=.inl rfl;have N:az (callEnvC (gt fd (sA 54)) L f) "k":=.inl rfl;have H:∀i:Nat,i<3->XJ pp w V A (callEnvC (gt fd (sA 54)) L f) (bo kW) ⟨[("k",.int i),("signs",.str (ek m i)),("octal",.int m)],ph,B⟩ ⟨[("signs",.str (ek m (i+1))),("octal",.int m)],ph,B⟩ .next:=λ i M=>Wx R.handled M K
 have first:SJ pp w V A (callEnvC (gt fd (sA 54)) L f) (gl (ay (sA 54)) 1) ⟨gu m,ph,B⟩ ⟨("signs",.str (ek m 0))::gu m,ph,B⟩ .next:=YX G K
 have dict:SJ pp w V A (callEnvC (gt fd (sA 54)) L f) (gl (ay (sA 54)) 0) ⟨[("octal",.int m)],ph,B⟩ ⟨gu m,ph,B⟩ .next:=by exact @WK w V A fd L f ph B m K
 generalize ek m=S at H first ⊢
 have J:=Wj G R.handled K S H;have ret:SJ pp w V A (callEnvC (gt fd (sA 54)) L f) (gl (ay (sA 54)) 3) ⟨[("signs",.str (S 3)),("octal",.int m)],ph,B⟩ ⟨[("signs",.str (S 3)),("octal",.int m)],ph,B⟩ (.ret (.str (S 3))):=SJ.ret (EJ.loc rfl rfl K);rw[Xk];unfold kW at J;generalize gl (ay (sA 54)) 0=a0 at *;generalize gl (ay (sA 54)) 1=a1 at *;generalize gl (ay (sA 54)) 2=a2 at *;generalize gl (ay (sA 54)) 3=a3 at *;exact XJ.drop (XJ.cons dict (XJ.cons first (XJ.pre (l:=[("signs",.str (S 0)),("octal",.int m)]) (XJ.cons J (XJ.ret ret)) (aw.cons rfl (aw.cons rfl .nil)))))
end
theorem uo (n k:Nat):n &&& 2 ^ k=if n / 2 ^ k % 2=1 then 2 ^ k else 0:=by
 apply Nat.eq_of_testBit_eq;intro i;rw[Nat.testBit_and,Nat.testBit_two_pow]
 by_cases h:n / 2 ^ k % 2=1
 .rw[if_pos h,Nat.testBit_two_pow]
  by_cases e:k=i
  .subst e;simp[Nat.testBit_eq_decide_div_mod_eq,h]
  .simp[e]
 .rw[if_neg h,Nat.zero_testBit]
  by_cases e:k=i
  .subst e;simp[Nat.testBit_eq_decide_div_mod_eq,h]
  .simp[e]
theorem FX {i n b:Nat}(hi:i≠0):dg i (n:Int) (b:Int)=(n &&& b==b):=by
 unfold dg;rw[if_neg hi];unfold j2;rw[decide_eq_true (je n),decide_eq_true (je b)];simp only[gh];rw[(iE),(beq_iff_eq),(beq_iff_eq)];exact Int.ofNat_inj
theorem QQ {n b:Nat}:dg 0 (n:Int) (b:Int)=(n &&& 61440==b):=by
 unfold dg;rw[if_pos rfl];unfold j2;rw[decide_eq_true (je n)];show((((n:Int).toNat &&& (61440:Int).toNat:Nat):Int)==(b:Int))=_;rw[gh,show(61440:Int).toNat=61440 from rfl];rw[(iE),(beq_iff_eq),(beq_iff_eq)];exact Int.ofNat_inj
theorem Av {i n:Nat}(hi:i≠0)(k:Nat):dg i (n:Int) ((2 ^ k:Nat):Int)=decide (n / 2 ^ k % 2=1):=by
 rw[FX hi,uo]
 by_cases h:n / 2 ^ k % 2=1
 .rw[if_pos h,decide_eq_true h];simp
 .rw[if_neg h,decide_eq_false h,(beq_eq_false_iff_ne)];exact aS (Nat.two_pow_pos k)
theorem Q4 {i n c:Nat}(hi:i≠0)(k j:Nat)(B:c=2 ^ k ||| 2 ^ j)(D:2 ^ k≠c)(G:2 ^ j≠c)(C:0≠c):dg i (n:Int) (c:Int)=(decide (n / 2 ^ k % 2=1)&&decide (n / 2 ^ j % 2=1)):=by
 rw[FX hi];have e:n &&& c=(if n / 2 ^ k % 2=1 then 2 ^ k else 0) ||| (if n / 2 ^ j % 2=1 then 2 ^ j else 0):=by rw[B,Nat.and_or_distrib_left,uo,uo]
 rw[e]
 by_cases a:n / 2 ^ k % 2=1
 .by_cases b:n / 2 ^ j % 2=1
  .rw[if_pos a,if_pos b,<-B];simp[a,b]
  .rw[if_pos a,if_neg b,Nat.or_zero,decide_eq_false b,Bool.and_false,(beq_eq_false_iff_ne)];exact D
 .by_cases b:n / 2 ^ j % 2=1
  .rw[if_neg a,if_pos b,Nat.zero_or,decide_eq_false a,Bool.false_and,(beq_eq_false_iff_ne)];exact G
  .rw[if_neg a,if_neg b,Nat.zero_or,decide_eq_false a,Bool.false_and,(beq_eq_false_iff_ne)];exact C
theorem BU (n k:Nat):dj (n:Int) k=((n / 8 ^ (2 - k) % 8:Nat):Int):=by
 unfold dj;rw[show((8:Int) ^ (2 - k))=((8 ^ (2 - k):Nat):Int) by rw[Int.natCast_pow];rfl,<-Int.ofNat_fdiv];exact(Int.ofNat_fmod _ 8).symm
theorem PD (n k:Nat):ownOf (n:Int) k=((n / 512 / 2 ^ (2 - k) % 2:Nat):Int):=by
 unfold ownOf;rw[show((2:Int) ^ (2 - k))=((2 ^ (2 - k):Nat):Int) by rw[Int.natCast_pow];rfl,show(512:Int)=((512:Nat):Int) from rfl,<-Int.ofNat_fdiv,<-Int.ofNat_fdiv];exact(Int.ofNat_fmod _ 2).symm
theorem Bi (n k:Nat):cT (n:Int) k=if n / 8 ^ (2 - k) % 8 / 4=1 then "r" else "-":=by
 unfold cT;rw[BU,show(4:Int)=((4:Nat):Int) from rfl,<-Int.ofNat_fdiv]
 by_cases h:n / 8 ^ (2 - k) % 8 / 4=1
 .rw[if_pos h,h];rfl
 .rw[if_neg h,(if_neg)];exact λ e=>h (Int.ofNat_inj.mp (beq_iff_eq.mp e))
theorem Bt (n k:Nat):cU (n:Int) k=if n / 8 ^ (2 - k) % 8 / 2 % 2=1 then "w" else "-":=by
 unfold cU;rw[BU,show(2:Int)=((2:Nat):Int) from rfl,<-Int.ofNat_fdiv,<-Int.ofNat_fmod]
 by_cases h:n / 8 ^ (2 - k) % 8 / 2 % 2=1
 .rw[if_pos h,h];rfl
 .rw[if_neg h,(if_neg)];exact λ e=>h (Int.ofNat_inj.mp (beq_iff_eq.mp e))
theorem PI (n k:Nat):cx (n:Int) k=(kF k).getD (n / 8 ^ (2 - k) % 8 % 2+2 * (n / 512 / 2 ^ (2 - k) % 2)) default:=by
 unfold cx;rw[BU,PD]
 congr 1
 rw[show((n / 8 ^ (2 - k) % 8:Nat):Int).fmod 2=((n / 8 ^ (2 - k) % 8 % 2:Nat):Int) from (Int.ofNat_fmod _ 2).symm];exact gh (_+2 * _)
theorem qw {i n:Nat}(hi:i≠0)(k e:Nat)(B:((2 ^ e:Nat):Int)=b)(c:Str)(h:n / 2 ^ e % 2=1↔P)[Decidable P]:Tl i (n:Int) [(b,c)]=if P then c else "-":=by
 show(if dg i n b then c else Tl i n [])=_;rw[<-B,(Av hi),show Tl i (n:Int) []="-" from if_neg hi]
 by_cases q:P
 .rw[if_pos q,if_pos (decide_eq_true (h.mpr q))]
 .rw[if_neg q,if_neg (by rw[decide_eq_false (λ z=>q (h.mp z))];decide)]
theorem By {i n c:Nat}(hi:i≠0)(s x k:Nat)(H:c=2 ^ s ||| 2 ^ x)(G:2 ^ s≠c)(J:2 ^ x≠c)(D:0≠c)(hx:n / 2 ^ x % 2=n / 8 ^ (2 - k) % 8 % 2)(C:n / 2 ^ s % 2=n / 512 / 2 ^ (2 - k) % 2):
  Tl i (n:Int) [((c:Nat),⟨#[([115,115,116]:List Nat).getD k 0]⟩),((2 ^ s:Nat),⟨#[([83,83,84]:List Nat).getD k 0]⟩),((2 ^ x:Nat),"x")]=cx (n:Int) k:=by
 rw[PI,<-hx,<-C];show(if dg i n c then _ else if dg i n _ then _ else if dg i n _ then _ else Tl i n [])=_;rw[Q4 hi s x H G J D,(Av hi),(Av hi),show Tl i (n:Int) []="-" from if_neg hi];have B:=Nat.mod_two_eq_zero_or_one (n / 2 ^ x);have q2:=Nat.mod_two_eq_zero_or_one (n / 2 ^ s)
 rcases B with B|B<;>rcases q2 with q2|q2<;>rw[B,q2]<;>rfl
theorem iz (x y:Str):(x++y).cps.toList=x.cps.toList++y.cps.toList:=by
 show(x.cps++y.cps).toList=_;rw[Array.toList_append]
theorem Iy {n:Nat}(h:n<65536):n &&& 61440=n / 4096 * 4096:=by
 apply Nat.eq_of_testBit_eq;intro i;have m:∀i,i<16->Nat.testBit 61440 i=decide (12<=i):=by decide
 rw[Nat.testBit_and,show n / 4096 * 4096=n / 2 ^ 12 * 2 ^ 12 from rfl,Nat.testBit_mul_two_pow,Nat.testBit_div_two_pow]
 rcases Nat.lt_or_ge i 16 with q|q
 .rw[m i q]
  by_cases z:12<=i
  .rw[Nat.sub_add_cancel z,Bool.and_comm]
  .rw[decide_eq_false z,Bool.and_false,Bool.false_and]
 .rw[Nat.testBit_lt_two_pow (gb h (Nat.pow_le_pow_right (by decide:2 > 0) q)),Nat.sub_add_cancel (av (by decide) q),Nat.testBit_lt_two_pow (gb h (Nat.pow_le_pow_right (by decide:2 > 0) q)),Bool.and_false,Bool.false_and]
theorem e4 (n a:Nat):n / a % 8 / 4=n / (a * 4) % 2:=(Nat.mod_mul_right_div_self (n / a) 4 2).trans (by rw[Nat.div_div_eq_div_mul])
theorem e2 (n a:Nat):n / a % 8 / 2 % 2=n / (a * 2) % 2:=by
 rw[show n / a % 8 / 2=n / a / 2 % 4 from Nat.mod_mul_right_div_self (n / a) 2 4,Nat.mod_mod_of_dvd _ (by decide),Nat.div_div_eq_div_mul]
theorem e1 (n a:Nat):n / a % 8 % 2=n / a % 2:=Nat.mod_mod_of_dvd _ (by decide)
theorem q4 (n a:Nat):n / (a * 4) % 2=1↔n / a % 8 / 4=1:=by rw[e4]
theorem q2 (n a:Nat):n / (a * 2) % 2=1↔n / a % 8 / 2 % 2=1:=by rw[e2]
theorem q9 (n a:Nat):n / (512 * a) % 2=n / 512 / a % 2:=by rw[Nat.div_div_eq_div_mul]
theorem QF {n:Int}{m:Nat}(C:∀b:Nat,dg 0 n (b:Int)=(m==b)):∀l:List (Nat×Str),Tl 0 n (l.map λ p=>((p.1:Int),p.2))=((l.find? λ p=>m==p.1).map (·.2)).getD ("?" : Str):=by
 intro B
 induction B with
 |nil=>
  exact rfl
 |cons G t D=>
  obtain(⟨b,c⟩):=G;show(if dg 0 n (b:Int)=true then c else Tl 0 n _)=_;rw[C,D,List.find?_cons];cases m==b<;>rfl
theorem Pb {n:Nat}(h:n<65536)(H:n / 4096=0\/n / 4096=4\/n / 4096=8\/n / 4096=10\/n / 4096=12):Tl 0 (n:Int) [(40960,"l"),(49152,"s"),(32768,"-"),(24576,"b"),(16384,"d"),(8192,"c"),(4096,"p")]=fx (n:Int):=by
 have C:∀z:Nat,n &&& 61440=z->(n:Int).fdiv 4096 * 4096=((z:Nat):Int):=λ z B=>by
  rw[Iy h] at B;rw[show(4096:Int)=((4096:Nat):Int) from rfl,<-Int.ofNat_fdiv,<-B,Int.natCast_mul]
 have B:n &&& 61440=n / 4096 * 4096:=Iy h;have D:∀b:Nat,dg 0 (n:Int) (b:Int)=(n / 4096 * 4096==b):=λ b=>by rw[QQ,B]
 have G:fx (n:Int)=match dB.lookup ((n / 4096 * 4096:Nat):Int) with|some c=>c|none=>"?":=by
  unfold fx;rw[C _ B]<;>rfl
 rw[G];refine(QF D [(40960,"l"),(49152,"s"),(32768,"-"),(24576,"b"),(16384,"d"),(8192,"c"),(4096,"p")]).trans ?_
 rcases H with e|e|e|e|e<;>rw[e]<;>rfl
theorem JT {n:Nat}(h:n<65536)(L:n / 4096=0\/n / 4096=4\/n / 4096=8\/n / 4096=10\/n / 4096=12):qv (n:Int)=ek (n:Int) 3:=by
 have G:Tl 1 (n:Int) [(256,"r")]=cT n 0:=by
  rw[Bi,qw (i:=1) (n:=n) (b:=256) (by decide) 0 8 rfl "r" (P:=n / 8 ^ (2 - 0) % 8 / 4=1) (q4 n 64)]
  split<;>rfl
 have J:Tl 2 (n:Int) [(128,"w")]=cU n 0:=by
  rw[Bt,qw (i:=2) (n:=n) (b:=128) (by decide) 0 7 rfl "w" (P:=n / 8 ^ (2 - 0) % 8 / 2 % 2=1) (q2 n 64)]
  split<;>rfl
 have N:Tl 3 (n:Int) [(2112,"s"),(2048,"S"),(64,"x")]=cx n 0:=
  By (i:=3) (n:=n) (c:=2112) (by decide) 11 6 0 (by decide) (by decide) (by decide) (by decide) (e1 n 64).symm (q9 n 4)
 have O:Tl 4 (n:Int) [(32,"r")]=cT n 1:=by
  rw[Bi,qw (i:=4) (n:=n) (b:=32) (by decide) 0 5 rfl "r" (P:=n / 8 ^ (2 - 1) % 8 / 4=1) (q4 n 8)]
  split<;>rfl
 have C:Tl 5 (n:Int) [(16,"w")]=cU n 1:=by
  rw[Bt,qw (i:=5) (n:=n) (b:=16) (by decide) 0 4 rfl "w" (P:=n / 8 ^ (2 - 1) % 8 / 2 % 2=1) (q2 n 8)]
  split<;>rfl
 have D:Tl 6 (n:Int) [(1032,"s"),(1024,"S"),(8,"x")]=cx n 1:=
  By (i:=6) (n:=n) (c:=1032) (by decide) 10 3 1 (by decide) (by decide) (by decide) (by decide) (e1 n 8).symm (q9 n 2)
 have M:Tl 7 (n:Int) [(4,"r")]=cT n 2:=by
  rw[Bi,qw (i:=7) (n:=n) (b:=4) (by decide) 0 2 rfl "r" (P:=n / 8 ^ (2 - 2) % 8 / 4=1) (q4 n 1)]
  split<;>rfl
 have H:Tl 8 (n:Int) [(2,"w")]=cU n 2:=by
  rw[Bt,qw (i:=8) (n:=n) (b:=2) (by decide) 0 1 rfl "w" (P:=n / 8 ^ (2 - 2) % 8 / 2 % 2=1) (q2 n 1)]
  split<;>rfl
 have B:Tl 9 (n:Int) [(513,"t"),(512,"T"),(1,"x")]=cx n 2:=
  By (i:=9) (n:=n) (c:=513) (by decide) 9 0 2 (by decide) (by decide) (by decide) (by decide) (e1 n 1).symm (q9 n 1)
 have e:gK (n:Int) 0 gG=[fx n,cT n 0,cU n 0,cx n 0,cT n 1,cU n 1,cx n 1,cT n 2,cU n 2,cx n 2]:=by
  rw[<-G,<-J,<-N,<-O,<-C,<-D,<-M,<-H,<-B,<-Pb h L]
  rfl
 apply F7;unfold qv;rw[zB,e];show _=(((((((((fx n++cT n 0)++cU n 0)++cx n 0)++cT n 1)++cU n 1)++cx n 1)++cT n 2)++cU n 2)++cx n 2).cps.toList;simp only[iz,dz,List.flatMap_nil,nC,eH]
theorem VF (s sub:Str)(hi:Nat):∀(l:List Nat) (a f:Nat),(forIn l ((#[a]:Array Nat),f) (nJ s sub hi 1)).run=(#[a],f):=by
 intro B
 induction B with
 |nil=>
  intro a f;exact rfl
 |cons b l C=>
  intro a f;rw[lN];unfold nJ;rw[if_neg (λ h=>absurd h.1.1.1 (by simp))];exact C a f
theorem yO (s sub:Str)(hi:Nat):∀(d p n B:Nat),B<=p->(∀i,p<=i->i<p+d->gi s sub i=false)->gi s sub (p+d)=true->p+d+sub.length<=hi->d<n ->
  (forIn (j9 p n) ((#[]:Array Nat),B) (nJ s sub hi 1)).run.fst = #[p+d]
 |d,p,0,B,_,_,_,_,C=>absurd C (by lia)
 |0,p,n+1,B,D,H,G,J,C=>by
  rw[List.range'_succ,lN];unfold nJ;rw[if_pos ⟨⟨⟨by simp,D⟩,J⟩,G⟩];exact congrArg Prod.fst (VF s sub hi _ _ _)
 |d+1,p,n+1,B,D,H,G,J,C=>by
  rw[List.range'_succ,lN];unfold nJ;rw[if_neg (λ h=>by have:=h.2;rw[H p (aJ _) (Nat.lt_add_of_pos_right (Nat.succ_pos _))] at this;cases this)];have:=yO s sub hi d (p+1) n B (by exact lY D) (λ i a b=>H i (by exact dq a) (by lia)) (by rw[show p+1+d=p+(d+1) by exact nq ..];exact G) (by lia) (by exact Nat.le_of_succ_le_succ C);rw[show p+(d+1)=p+1+d by exact(Nat.succ_add ..).symm];exact this
theorem B0 {x:Str}{c i:Nat}:gi x ⟨#[c]⟩ i=(x.cps[i]? == some c):=by
 unfold gi;rw[(iE),(beq_iff_eq),(beq_iff_eq)];show x.cps.extract i (i+1) = #[c]↔_
 by_cases h:i<x.cps.size
 .have e:x.cps.extract i (i+1) = #[x.cps[i]]:=by
   apply Array.ext';rw[Array.toList_extract,List.extract_eq_take_drop];rw[show i+1 - i=1 by exact Nat.add_sub_cancel_left ..];rw[uS (by simpa using h)]
   simp
  rw[e,vi h]
  simp
 .rw[Array.getElem?_eq_none (Nat.le_of_not_lt h)]
  constructor
  .intro e;rw[Array.extract_empty_of_size_le_start (Nat.le_of_not_lt h)] at e;cases e
  .intro e;cases e
theorem uf {x:Str}{S:Str->Bool}{pre mid post:List Nat}{c:Nat}(hx:x.cps.toList=pre++mid++c::post)(G:c∉mid)(C:∀a∈mid,S (wP a)=false):sH x S ⟨#[c]⟩ pre.length (pre.length+mid.length):=by
 have dR:∀i:Nat,x.cps[i]? = (pre++mid++c::post)[i]?:=λ i=>by rw[<-hx];simp
 have B:x.length=pre.length+mid.length+(post.length+1):=by
  show x.cps.size=_;rw[<-ed,hx]
  simp;exact(Nat.add_assoc ..).symm
 refine⟨⟨[],?_⟩,dW ..,by lia,?_⟩
 .have J:∀i,pre.length<=i->i<pre.length+mid.length->gi x ⟨#[c]⟩ i=false:=λ i a b=>by
   rw[B0,dR,(beq_eq_false_iff_ne)];intro e;rw[eH,fF a,cm (by lia)] at e;exact G (eX e)
  have q2:gi x ⟨#[c]⟩ (pre.length+mid.length)=true:=by
   rw[B0,dR,(beq_iff_eq),fF (by simp)]
   simp
  have D:pre.length+mid.length+(⟨#[c]⟩:Str).length<=x.length:=by show _+1<=_;lia
  rw[StrLaws.occ_eq,yO x ⟨#[c]⟩ x.length mid.length pre.length _ pre.length (aJ _) J q2 D (by lia)]
 .rw[hx,eH,vj (aJ _),List.drop_length,jo,show pre.length+mid.length - pre.length=mid.length by exact Nat.add_sub_cancel_left ..,vk (aJ _),List.take_length];rw[(j6)];intro a H;rw[C a H];rfl
theorem w1 {x:Str}{pre mid post:List Nat}(hx:x.cps.toList=pre++mid++post):Op x pre.length (pre.length+mid.length)=⟨mid.toArray⟩:=by
 unfold Op;rw[hx,eH,vj (aJ _),List.drop_length,jo,show pre.length+mid.length - pre.length=mid.length by exact Nat.add_sub_cancel_left ..,vk (aJ _),List.take_length]
theorem tO {x:Str}{S:Str->Bool}{pre bl post:List Nat}(hx:x.cps.toList=pre++bl++post)(C:∀a∈bl,S (wP a)=true)(D:∀a,post.head? = some a->S (wP a)=false):UF x S pre.length=pre.length+bl.length:=by
 unfold UF;rw[hx,eH,vj (aJ _),List.drop_length,jo]
 congr 1
 rw[List.takeWhile_append_of_pos (λ a B=>C a B)];rw[aP]
 cases post with
 |nil=>rfl
 |cons a r=>
  rw[List.takeWhile_cons,D a rfl]
  rfl
def iY (post:List Nat):Prop:=∀a,post.head? = some a->On (wP a)=false/\a≠35
theorem Iu {x:Str}{pre post:List Nat}(hx:x.cps.toList=pre++post)(h:iY post):jN x pre.length pre.length:=by
 have dR:x.cps[pre.length]? = post.head?:=by
  rw[show x.cps[pre.length]? = x.cps.toList[pre.length]? by simp,hx,fF (aJ _),Nat.sub_self,List.head?_eq_getElem?]
 cases post with
 |nil=>
  refine .eof ?_;show x.cps.size<=_;rw[<-ed,hx];simp
 |cons a r=>exact .other dR (h a rfl).2
theorem BE {x:Str}{pre post:List Nat}(hx:x.cps.toList=pre++post)(h:iY post):jz x pre.length pre.length:=by
 have e:UF x On pre.length=pre.length+0:=tO (bl:=[]) (by simpa using hx) (λ a B=>by cases B) (λ a B=>(h a B).1);refine .stop ?_;rw[e];exact Iu hx h
theorem DY {x:Str}{pre bl post:List Nat}(hx:x.cps.toList=pre++bl++post)(h0:bl≠[])(G:∀a∈bl,On (wP a)=true)(h:iY post)(H:x.length<2 ^ 24):jz x pre.length (pre++bl).length:=by
 have e:UF x On pre.length=pre.length+bl.length:=tO hx G (λ a C=>(h a C).1);have J:0<bl.length:=List.length_pos_iff.mpr h0;have B:x.length=pre.length+bl.length+post.length:=by
  show x.cps.size=_;rw[<-ed,hx];simp;exact(Nat.add_assoc ..).symm
 have D:=Iu hx h;refine .go (q:=(pre++bl).length) ?_ ?_ ?_ (BE hx h)
 .rw[e,<-aP];exact D
 .rw[aP];lia
 .rw[aP];lia
theorem OV {x:Str}{pre mid post:List Nat}(hx:x.cps.toList=pre++([32,35]++mid++[10])++post)(h0:10∉mid)(J:∀a∈mid,ct (wP a)=false)(h:iY post)(G:x.length<2 ^ 24):jz x pre.length (pre++([32,35]++mid++[10])).length:=by
 have D:x.length=pre.length+(mid.length+3)+post.length:=by
  show x.cps.size=_;rw[<-ed,hx];simp;lia
 have e:UF x On pre.length=pre.length+[32].length:=tO (bl:=[32]) (post:=35::(mid++10::post)) (by rw[hx];simp) (λ a B=>by simp at B;subst B;decide) (λ a B=>by simp at B;subst B;decide);have dR:x.cps[pre.length+1]? = some 35:=by
  rw[show x.cps[pre.length+1]? = x.cps.toList[pre.length+1]? by simp,hx];rw[show pre++([32,35]++mid++[10])++post=(pre++[32])++35::(mid++10::post) by simp,fF (by simp)]
  simp
 have U:=uf (x:=x) (S:=ct) (pre:=pre++[32,35]) (mid:=mid) (c:=10) (post:=post) (by rw[hx];simp) h0 J;have H:(pre++([32,35]:List Nat)).length=pre.length+1+1:=by simp
 rw[H] at U;have C:=DY (x:=x) (pre:=pre++[32,35]++mid) (bl:=[10]) (post:=post) (by rw[hx];simp) (by simp) (λ a B=>by simp at B;subst B;decide) h G;refine .go (q:=pre.length+1+1+mid.length) ?_ (by lia) (by lia) ?_
 .rw[e];exact .hash dR U
 .have zt:(pre++([32,35]:List Nat)++mid).length=pre.length+1+1+mid.length:=by simp;lia
  rw[zt] at C;rw[show pre++([32,35]++mid++[10])=pre++[32,35]++mid++[10] by simp];exact C
inductive Tk where
 |WF (a b c d:Nat)
 |name (y:Str)
noncomputable def Tk.code:Tk->List Nat
 | .WF a b c d=>[a,b,c,d]
 | .name y=>39::(y.cps.toList++[39])
def Tk.OK:Tk->Prop
 | .WF a b c d=>a∈([56,52,97,99,65,67,100,68]:List Nat)/\b∈XL/\c∈XL/\d∈XL/\c6 a b c d<55296
 | .name y=>39∉y.cps.toList/\∀a∈y.cps.toList,ct (wP a)=false
inductive eW:List Nat->Prop
 |blank {bl}:bl≠[]->(∀a∈bl,On (wP a)=true)->eW bl
 |note {mid}:10∉mid->(∀a∈mid,ct (wP a)=false)->eW ([32,35]++mid++[10])
noncomputable def pc (l:List (Tk×List Nat)):List Nat:=l.flatMap λ p=>p.1.code++p.2
theorem wu {t:Tk}(h:t.OK)(r:List Nat):iY (t.code++r):=by
 intro a B
 cases t with
 |WF x b c d=>
  have:x=a:=by simpa [Tk.code] using B
  subst this;exact(by decide:∀a∈([56,52,97,99,65,67,100,68]:List Nat),On (wP a)=false/\a≠35) _ h.1
 |name y=>
  have:39=a:=by simpa [Tk.code] using B
  subst this
  decide
theorem Qn {x:Str}{pre sep post:List Nat}(G:eW sep)(hx:x.cps.toList=pre++sep++post)(h:iY post)(D:x.length<2 ^ 24):jz x pre.length (pre++sep).length:=by
 cases G with
 |blank B C=>exact DY hx B C h D
 |note B C=>exact OV hx B C h D
structure RR where
 oct:Int
 name:Option Str
 kt:List Str
noncomputable def DR:Option Str->PV
 |none=>.none
 |some y=>.str y
noncomputable def RR.pv (r:RR):PV:=.lst [.int r.oct,DR r.name,.lst (r.kt.map .str)]
noncomputable def RR.put (r:RR)(y:Str):RR:=match r.name with
 |none=>⟨r.oct,some y,[]⟩
 |some z=>⟨r.oct,some z,r.kt++[y]⟩
noncomputable def LT (rs:List RR):Tk->List RR
 | .WF a b c d=>rs++[⟨(c6 a b c d:Nat),none,[]⟩]
 | .name y=>match rs.getLast? with
  |some r=>rs.dropLast++[r.put y]
  |none=>rs
noncomputable def IR (rs:List RR)(l:List (Tk×List Nat)):List RR:=l.foldl (λ rs p=>LT rs p.1) rs
noncomputable def jC:Tk->Bool
 | .WF ..=>true
 |_=>false
theorem Mb {scope:Scope}{ew:aB}(Q3:∀x∈scope.names,x.2≠.free):closureFor scope ew=aq []:=by
 simp only[closureFor];rw[forIn_yield_id [] (λ x C c=>by
  obtain(⟨n,B⟩):=x;have:(B==dN)=false:=by simpa using Q3 _ C
  simp only[this,rF,if_false])]
 rfl
theorem UK (s sub:Str)(hi B:Nat):∀(l:List Nat) (st:Array Nat×Nat),st.fst.size<=B->(forIn l st (nJ s sub hi B)).run.fst.size<=B:=by
 intro D
 induction D with
 |nil=>
  intro st h;exact h
 |cons b l C=>
  intro st h;rw[lN];unfold nJ
  split
  .rename_i q
   exact C _ (by rw[Array.size_push];exact q.1.1.1)
  .exact C _ h
theorem Oi {s sub:Str}{lo hi B:Nat}:(cL s sub lo hi B).length<=B:=by
 rw[StrLaws.occ_eq,ed];exact UK s sub hi B _ _ (eJ _)
theorem JX {a:Int}(h:a.natAbs<2 ^ 60):a.natAbs.log2<60:=by
 by_cases B:a.natAbs=0
 .rw[B];decide
 .exact(Nat.log2_lt B).mpr h
theorem Hl {a:Int}(h:a.natAbs<2 ^ 60):(gT (toString a)).length<=100:=by
 rw[PySem.ofString_length];exact av (int_text_length_le (by decide) (JX h)) (by decide)
noncomputable def pS:aC:=gl (ay (sA 18)) 0
section
variable {f:Addr}{fd:aU}
noncomputable def eP (x:Str)(p:Nat):Nat:=(cL x "\n" (bg x.length 0) (min (bg x.length p) x.length) (x.length+1)).length
theorem Sf {x:Str}{p:Nat}(T:cu V mg mb)(H:mg "len"=none/\mb "len"=some (.builtin "len"))(D:Ps V pS f fd)(hx:x.length<2 ^ 24)(j:p<2 ^ 25):
  ∃r:Str,r.length<=1000/\∀ph,tA pp w V (λ A=>cV A 1) f [.str x,.int p] [] ph ph (.str r):=by
 have mk:∀(r:Str) (ln:List (Str×PV)),(∀ph A L B,cV A 0->Ctx A (callEnvC fd L f) B->XJ pp w V A (callEnvC fd L f) (ay pS) ⟨[("src",.str x),("pos",.int p)],ph,B⟩ ⟨ln,ph,B⟩ (.ret (.str r)))->∀ph,tA pp w V (λ A=>cV A 1) f [.str x,.int p] [] ph ph (.str r):=by
  intro r ln h ph;refine mj.fn (mj.of_body (vX:=λ A=>cV A 0) (ln:=[]) (fl:=.ret (.str r)) (λ A R=>R) (λ A e R=>R.deeper e) T D.fn (re.p2 λ u v=>D.binds λ _=>rfl) (D.locs ["src","pos"] (by decide) rfl) λ A L B R C=>?_);exact XJ.sw (h ph A L B R C) aw.nil
 have Q:∀{ph A L B},EJ pp w V A (callEnvC fd L f) (.Call (.Name "len" ⟨67,18,67,21⟩) [.Name "src" ⟨67,22,67,25⟩] [] ⟨67,18,67,26⟩) ⟨[("src",.str x),("pos",.int p)],ph,B⟩ ⟨[("src",.str x),("pos",.int p)],ph,B⟩ (.int x.length):=λ{ph A L B}=>
  EJ.bY (EJ.blt T D.mt (D.kind rfl) H.1 H.2 (λ _ _ _=>.blt _)) (am.cons (EJ.loc rfl (D.kind rfl) D.mt) am.nil) (ds.len_str (ww hx rfl))
 by_cases Y:x.length<=p
 .refine⟨"end of document",by decide,mk _ [("src",.str x),("pos",.int p)] λ ph A L B R C=>XJ.ret (SJ.iff (b:=true) ?_ (XJ.ret (SJ.ret EJ.cs)))⟩;have e:decide ((p:Int)>=(x.length:Int))=true:=by simp;exact Y
  exact e▸TJ.li (EJ.loc rfl (D.kind rfl) D.mt) Q CJ.ge_int
 .have e:decide ((p:Int)>=(x.length:Int))=false:=by simp;exact Nat.lt_of_not_le Y
  have m:eP x p<=x.length+1:=Oi;have Gh:∀{ph A L B},SJ pp w V A (callEnvC fd L f) (gl (ay pS) 0) ⟨[("src",.str x),("pos",.int p)],ph,B⟩ ⟨[("src",.str x),("pos",.int p)],ph,B⟩ .next:=λ{ph A L B}=>SJ.iff (b:=false) (e▸TJ.li (EJ.loc rfl (D.kind rfl) D.mt) Q CJ.ge_int) XJ.nil
  have G:∀{ph A L B},SJ pp w V A (callEnvC fd L f) (gl (ay pS) 1) ⟨[("src",.str x),("pos",.int p)],ph,B⟩ ⟨[("line",.int ((eP x p:Nat)+1)),("src",.str x),("pos",.int p)],ph,B⟩ .next:=λ{ph A L B}=>
   SJ.assign D.mt (.inl (D.kind rfl)) (EJ.bin (EJ.io (EJ.loc rfl (D.kind rfl) D.mt) on.count (am.cons EJ.cs (am.cons EJ.ci (am.cons (EJ.loc rfl (D.kind rfl) D.mt) am.nil))) ds.Qy) EJ.ci BJ.add_int)
  have J:∀{c:Int},c.natAbs<2 ^ 60->∃r:Str,r.length<=1000/\∀{ph A L B},SJ pp w V A (callEnvC fd L f) (gl (ay pS) 3) ⟨[("column",.int c),("line",.int ((eP x p:Nat)+1)),("src",.str x),("pos",.int p)],ph,B⟩ ⟨[("column",.int c),("line",.int ((eP x p:Nat)+1)),("src",.str x),("pos",.int p)],ph,B⟩ (.ret (.str r)):=λ{c} Z=>by
   have I:((eP x p:Nat)+1:Int).natAbs<2 ^ 60:=by lia
   have q:(gT (toString ((eP x p:Nat)+1:Int))).length<=100:=Hl I;have o:=Hl Z;have E:∀a:Int,a.natAbs<2 ^ 60->a.natAbs.log2<1920:=λ a h=>Nat.lt_trans (JX h) (by decide)
   have M:(((gU ++ "line ")++gT (toString ((eP x p:Nat)+1:Int)) ++ ", column ")++gT (toString c)).length<=1000:=by
    rw[bQ,bQ,bQ,bQ];have:(gU.length+("line " : Str).length)<=100/\(", column " : Str).length<=100:=by decide
    lia
   refine⟨_,M,λ{ph A L B}=>SJ.ret (EJ.wz (.cons EJ.cs (.cons (EJ.Ek (EJ.loc rfl (D.kind rfl) D.mt) (E _ I)) (.cons EJ.cs (.cons (EJ.Ek (EJ.loc rfl (D.kind rfl) D.mt) (E _ Z)) .nil)))) (av M (by rw[(ak)];decide)))⟩
  by_cases U:eP x p=0
  .obtain⟨r,N,O⟩:=J (c:=(p:Int)+1) (fK j rfl);refine⟨r,N,mk _ [("column",.int ((p:Int)+1)),("line",.int ((eP x p:Nat)+1)),("src",.str x),("pos",.int p)] λ ph A L B R C=>XJ.cons Gh (XJ.cons G (XJ.cons (al:=⟨[("column",.int ((p:Int)+1)),("line",.int ((eP x p:Nat)+1)),("src",.str x),("pos",.int p)],ph,B⟩) (SJ.iff (al:=⟨[("line",.int ((eP x p:Nat)+1)),("src",.str x),("pos",.int p)],ph,B⟩) (b:=true) ?_ (XJ.cons (SJ.assign D.mt (.inl (D.kind rfl)) (EJ.bin (EJ.loc rfl (D.kind rfl) D.mt) EJ.ci BJ.add_int)) XJ.nil)) (XJ.ret O)))⟩;have e1:(((eP x p:Nat)+1:Int)==1)=true:=by rw[U];rfl
   exact e1▸TJ.li (EJ.loc rfl (D.kind rfl) D.mt) EJ.ci CJ.eq_int
  .obtain⟨k,d,sU⟩:=Vv U;have g:k<=x.length:=av sU (Nat.min_le_right _ _);obtain⟨r,N,O⟩:=J (c:=(p:Int) - k) (by lia);refine⟨r,N,mk _ [("column",.int ((p:Int) - k)),("line",.int ((eP x p:Nat)+1)),("src",.str x),("pos",.int p)] λ ph A L B R C=>XJ.cons Gh (XJ.cons G (XJ.cons (al:=⟨[("column",.int ((p:Int) - k)),("line",.int ((eP x p:Nat)+1)),("src",.str x),("pos",.int p)],ph,B⟩) (SJ.iff (al:=⟨[("line",.int ((eP x p:Nat)+1)),("src",.str x),("pos",.int p)],ph,B⟩) (b:=false) ?_ (XJ.cons (SJ.assign D.mt (.inl (D.kind rfl)) (EJ.bin (EJ.loc rfl (D.kind rfl) D.mt) (EJ.io (EJ.loc rfl (D.kind rfl) D.mt) on.rindex (am.cons EJ.cs (am.cons EJ.ci (am.cons (EJ.loc rfl (D.kind rfl) D.mt) am.nil))) (ds.Xc d)) BJ.sub_int)) XJ.nil)) (XJ.ret O)))⟩;have e1:(((eP x p:Nat)+1:Int)==1)=false:=by rw[(beq_eq_false_iff_ne)];lia
   exact e1▸TJ.li (EJ.loc rfl (D.kind rfl) D.mt) EJ.ci CJ.eq_int
theorem gX.mono {I G:Im}(O:gX I mg x C)(h:nw I G):gX G mg x C:=by
 obtain⟨e,L,N,T,q,Q,B,R,sub,M,D,U,Y,V,b,Z,J,A,m,H⟩:=O;exact⟨e,L,N,T,q,Q,B,R,sub,M,D,U,Y,V,b,Z,J,A,m,λ E z=>H E λ a o q=>z a o (h a o q)⟩
noncomputable def AL:Pos:=⟨66,4,74,46⟩
noncomputable def xm (fd:aU):Str:=fd.qualname ++ ".<locals>." ++ "coord_repr"
noncomputable def fc (ph:List PO)(G:Top1 w V mg mb):Prop:=∃n:Nat,ph[n]? = some (PO.tab G.ou AL (xm (G.fd 18)))
theorem TH {x m:Str}{p:Nat}{ph:List PO}(G:Top1 w V mg mb)(hT:fc ph G)(hx:x.length<2 ^ 24)(hp:p<2 ^ 25)(hm:m.length<=1000):
  tz pp w V 2 (G.fn 18) [.str x,.int p,.str m] ph ph G.bX:=by
 have D:=G.d 18;obtain⟨n,hn⟩:=hT;refine tz.of_body (loc:=[("src",.str x),("pos",.int p),("msg",.str m)]) (ln:=[]) G.T D.fn (re.p3 λ u v t=>D.binds λ _=>rfl) (D.locs ["src","pos","msg"] (by decide) rfl) ?_;intro A L N R C I ρ s Q E k q;have K:=D.mt (L:=L);have hq:qualnameIn (callEnvC (G.fd 18) L (G.fn 18)) "coord_repr" "coord_repr"=xm (G.fd 18):=by
  unfold qualnameIn;rw[D.kind rfl];rfl
 refine wpAny_execs_cons (Xn G.T K G.qE hn hq (Mb (by decide)) rfl rfl rfl (.inl (D.kind rfl)) rfl rfl rfl k λ J ρ1 f fd s1 U b1 k1 o1 F h1 h2 h3 z=>?_);have Y:Ps J pS f fd:=⟨F,h1,h2,h3,z⟩;have H:nw V J:=k.top.trans U;apply bd;intro nk;obtain⟨o,ho,hd⟩:=F.at_;obtain⟨r,d,j⟩:=Sf (w:=w) (G.T.mono H) (G.fT ("len",.builtin "len") (by decide)) Y hx hp;apply nk;have O:(((gU++m) ++ " (at ")++r ++ ")").length<=aH:=by
  rw[bQ,bQ,bQ,bQ,ak];have:gU.length+(" (at " : Str).length+(")" : Str).length<=100:=by decide
  lia
 have cQ:m.length<=aH:=by rw[ak];exact ww hm rfl
 have iq:r.length<=aH:=by rw[ak];exact ww d rfl
 have M:EE pp w J A (callEnvC (G.fd 18) L (G.fn 18)) (KT (gl (ay (sA 18)) 1) 0) ⟨[("coord_repr",.obj f),("src",.str x),("pos",.int p),("msg",.str m)],ph,N⟩ ⟨[("coord_repr",.obj f),("src",.str x),("pos",.int p),("msg",.str m)],ph,N⟩ G.bX:=
  EE.We (G.T.mono H) K (G.iP.mono H) (D.kind rfl) (am.cons (EJ.wz (.cons (EJ.JQ (EJ.loc rfl (D.kind rfl) K) cQ) (.cons EJ.cs (.cons (EJ.JQ (EJ.bq (RM:=λ A=>cV A 1) (bi:=⟨[("coord_repr",.obj f),("src",.str x),("pos",.int p),("msg",.str m)],ph,N⟩) (EJ.loc rfl (D.kind rfl) K) ho hd (am.cons (EJ.loc rfl (D.kind rfl) K) (am.cons (EJ.loc rfl (D.kind rfl) K) am.nil)) (j ph) R C.cw) iq) (.cons EJ.cs .nil)))) O) am.nil) (by rw[ak];show 1<=_;decide)
 refine wpAny_execs_cons (wpAny_Return_some (M _ _ _ _ _ (k1.tX (.refl _)) λ I2 Z s2 y T g k2 c X=>?_));refine q _ _ _ _ (U.trans T) (b1.trans g) ?_ (c.trans o1) ?_
 .have B:=k2.tX (H.trans T);exact⟨B.inv,B.fr.weaken λ _ _ e=>(nomatch e),B.gens,B.top,B.No⟩
 .exact⟨⟨X.out.im,X.out.gB,X.out.fr,X.out.fs⟩,X.at_⟩
end
theorem Px (lo hi:Option Nat)(B:Nat):xT (lo.map λ n=>(n:Int)) (hi.map λ n=>(n:Int)) 1 B=xT (some ((min (lo.getD 0) B:Nat):Int)) (some ((min (hi.getD B) B:Nat):Int)) 1 B:=by
 have e:∀(o:Option Nat) (d:Nat),d<=B->(o.map λ n=>(n:Int)).elim (d:Int) (λ i=>max 0 (min (if i<0 then i+B else i) B))=((min (o.getD d) B:Nat):Int):=λ o d G=>by
  cases o with
  |none=>exact congrArg Nat.cast (nu G).symm
  |some i=>
   show max 0 (min (if (i:Int)<0 then (i:Int)+B else i) B)=((min i B:Nat):Int);rw[if_neg qh];exact vA i B
 have e2:∀(n:Nat),n<=B->max (0:Int) (min (if (n:Int)<0 then (n:Int)+B else n) B)=n:=λ n D=>by rw[if_neg qh,vA,nu D]
 have C:∀l h:Option Int,xT l h 1 B=sliceRange (l.elim (0:Int) (λ i=>max 0 (min (if i<0 then i+B else i) B))) (h.elim (B:Int) (λ i=>max 0 (min (if i<0 then i+B else i) B))) 1:=λ l h=>by
  cases l<;>cases h<;>rfl
 rw[C,C,e hi B (aJ _)];have:=e lo 0 (eJ _);rw[show(((0:Nat):Int))=0 from rfl] at this;rw[this];show _=sliceRange (max 0 (min (if ((min (lo.getD 0) B:Nat):Int)<0 then ((min (lo.getD 0) B:Nat):Int)+B else ((min (lo.getD 0) B:Nat):Int)) B)) (max 0 (min (if ((min (hi.getD B) B:Nat):Int)<0 then ((min (hi.getD B) B:Nat):Int)+B else ((min (hi.getD B) B:Nat):Int)) B)) 1;rw[e2 _ (Nat.min_le_right _ _),e2 _ (Nat.min_le_right _ _)]
theorem EJ.m8 (lo hi:Option Nat){a b:Nat}(O:EJ pg w V A ew value st al (.str x))(R:PJ pg w V A ew lower al bi (lo.map λ n=>(n:Int)))(M:PJ pg w V A ew upper bi lv (hi.map λ n=>(n:Int)))(D:x.length<=aH)
  (N:min (lo.getD 0) x.length=a) (J:min (hi.getD x.length) x.length=b) (B:a<=b) (L:∀o r,letTemporaryGo value o r=aq ():=by intro _ _;rfl):
  EJ pg w V A ew (.Subscript value (.Slice lower upper none p) pos) st lv (.str (Op x a b)):=by
 have C:b<=x.length:=J▸Nat.min_le_right _ _;have e:=StrLaws.sliced_plain x B C;have G:=Px lo hi x.length;rw[N,J] at G;refine EJ.EP O R M D ?_ ?_ ?_ L
 .rw[G,e];rfl
 .intro H;rw[G,StrLaws.strSliceIndices_plain B C] at H
  simp at H
  obtain⟨UO,Mz⟩:x02:=J5 H C B;subst Mz
  cases x with|mk c=>
  rw[UO];show(⟨_⟩:Str)=_;unfold Str.length
  simp
  rw[ve (by simp)]
 .exact av m7 D
section
variable {f:Addr}{fd:aU}
theorem Ps.mono {I B:Im}{f fd}(D:Ps I d f fd)(h:nw I B):Ps B d f fd:=⟨D.fn.mono h,D.params,D.scope,D.dflt,D.oU⟩
noncomputable def Top1.mono {I1:Im}(G:Top1 w V mg mb)(h:nw V I1):Top1 w I1 mg mb:=
 {T:=G.T.mono h,fn:=G.fn,fd:=G.fd,defs:=λ i hi=>⟨(G.defs i hi).1.mono h,(G.defs i hi).2⟩,fT:=G.fT,wI:=G.wI
  ws:=G.ws,uB:=G.uB,wB:=G.wB,v8:=h _ _ G.v8,vS:=G.vS
  ill:=G.ill,um:=G.um,sm:=G.sm,sv:=G.sv,oj:=h _ _ G.oj,og:=G.og
  hex:=G.hex,tV:=G.tV,qd:=G.qd,kj:=h _ _ G.kj,kT:=G.kT
  mods:=by obtain⟨o,a,b⟩:=G.mods;exact ⟨o,h _ _ a,b⟩
  bX:=G.bX,iP:=G.iP.mono h,vZ:=G.vZ,ou:=G.ou,qE:=⟨G.qE.code,λ hp z=>G.qE.at_ hp λ a o q=>z a o (h a o q),G.qE.ne⟩}
theorem Rz:eV pp w V (.type "ValueError") (.type "ValueError") true:=
 by
 have h:=eV.builtin (pg:=pp) (w:=w) (V:=V) (X:="ValueError") (T:="ValueError") (b:=true) (by rw[fD];kernel_rfl) (by rw[fD];kernel_rfl) (by rw[fD];kernel_rfl);exact h
theorem EE.k9 {x m:Str}{p:Nat}(G:Top1 w V mg mb)(B:fc ph G)(K:ut ew)(R:cV A 2)(C:Uf A ew fs)(hx:x.length<2 ^ 24)(D:p<2 ^ 25)(H:m.length<=1000)(J:ew.kindOf "suffixed_err"=some .globalImplicit)
  (L:am pp w V A ew [a,b,c] ⟨loc,ph,fs⟩ ⟨loc,ph,fs⟩ [.str x,.int p,.str m])
  (M:eval (.Call (.Name "suffixed_err" np) [a,b,c] [] pos) ew=(do du pos (<-eval (.Name "suffixed_err" np) ew) [] (backTo pos (starEach [a,b,c] ew)) []):=by rfl):
  EE pp w V A ew (.Call (.Name "suffixed_err" np) [a,b,c] [] pos) ⟨loc,ph,fs⟩ ⟨loc,ph,fs⟩ G.bX:=by
 obtain⟨o,Ok,At⟩:=(G.d 18).fn.at_;exact EE.bq (bi:=⟨loc,ph,fs⟩) (EJ.top G K 18 rfl J) Ok At L (TH G B hx D H) R C M
theorem Vr {x y:Str}{p:Nat}(G:Top1 w V mg mb)(H:fc ph G)(n5:cL x y p x.length 1=[])(T:p<=x.length)(hx:x.length<2 ^ 24)(M:(reprText y).length<=100):
  br pp w V 3 (G.fn 13) [.str x,.int p,.str y] [("error_on",.obj a),("error_on_eof",.bool true)] ph ph (.ref G.bX):=by
 have D:=G.d 13;refine br.of_body (loc:=[("src",.str x),("pos",.int p),("expect",.str y),("error_on",.obj a),("error_on_eof",.bool true)]) (ln:=[("new_pos",.int x.length),("src",.str x),("pos",.int p),("expect",.str y),("error_on",.obj a),("error_on_eof",.bool true)]) G.T D.fn (re.BS λ u v t p q=>D.binds λ _=>rfl) (D.locs ["src","pos","expect","error_on","error_on_eof"] (by decide) rfl) ?_;intro A L N R C;have K:=D.mt (L:=L);have Qr:cL x y (bg x.length (p:Int)) x.length 1=[]:=by
  have:bg x.length (p:Int)=p:=by unfold bg;rw[if_neg qh];exact rfl
  rw[this];exact n5
 refine XX.head (SX.qj (n:="ValueError") C C (XX.head (SX.assign (RX.xe R.handled (EJ.loc rfl (D.kind rfl) K) (am.cons (EJ.loc rfl (D.kind rfl) K) (am.cons (EJ.loc rfl (D.kind rfl) K) am.nil)) Qr)))
  (fZ.blt G.T K (D.kind rfl) (G.fT ("ValueError",.type "ValueError") (by decide)).1 (G.fT ("ValueError",.type "ValueError") (by decide)).2) Rz λ e O B J=>?_)
 refine XX.cons (SJ.assign K (.inl (D.kind rfl)) (EJ.bY (EJ.builtin (G.mono B) K (λ _ _=>.blt _) (D.kind rfl)) (am.cons (EJ.loc rfl (D.kind rfl) K) am.nil) (ds.len_str (ww hx rfl)))) (XX.head (SX.iff (b:=true) (TJ.val (EJ.loc rfl (D.kind rfl) K) VT.bool) (XX.head (SX.UY (G.iP.mono B) rfl J ?_))));refine EE.k9 (m:=gU ++ "Expected " ++ reprText y) (G.mono B) H K ⟨(R.mono (by decide:2<=2)).depth,(R.mono (by decide:2<=2)).units⟩ C.mark.cw hx (ww hx rfl) ?_ (D.kind rfl) (am.cons (EJ.loc rfl (D.kind rfl) K) (am.cons (EJ.loc rfl (D.kind rfl) K) (am.cons (EJ.wz (.cons EJ.cs (.cons (EJ.Ic (EJ.loc rfl (D.kind rfl) K) ?_) .nil)) ?_) am.nil)))
 .rw[bQ,bQ];have:gU.length+("Expected " : Str).length<=100:=by decide
  lia
 .rw[ak];exact ww M rfl
 .show(gU ++ "Expected " ++ reprText y).length<=_;rw[bQ,bQ,ak];have:gU.length+("Expected " : Str).length<=100:=by decide
  lia
end
structure uD (x:Str)(S:Str->Bool)(y:Str)(p k j c:Nat):Prop where
 sg:∃rest,cL x y p x.length 1=k::rest
 lo:p<=j
 hi:j<k
 le:k<=x.length
 at_:x.cps[j]? = some c
 bad:S (wP c)=true
 good:∀i,p<=i->i<j->∃d,x.cps[i]? = some d/\S (wP d)=false
 small:c<16 ^ 8
noncomputable def ua (x y:Str)(a:Addr)(e:Bool)(k i:Nat):List (Str×PV):=[("new_pos",.int k),("src",.str x),("pos",.int i),("expect",.str y),("error_on",.obj a),("error_on_eof",.bool e)]
section
variable {f:Addr}{fd:aU}
theorem uD.all {S}(U:uD x S y p k j c):((x.cps.toList.drop p).take (k - p)).all (λ c=>!S (wP c))=false:=by
 rw[(List.all_eq_false)];refine⟨c,?_,by rw[U.bad];decide⟩;have B:=U.lo;have C:=U.hi;have e:(((x.cps.toList.drop p).take (k - p)))[j - p]? = some c:=by
  rw[(List.getElem?_take_of_lt (Nat.sub_lt_sub_right B C)),(List.getElem?_drop),(Nat.add_sub_of_le B)]
  simpa using U.at_
 exact eX e
theorem FG {c:Nat}(h:c<16 ^ 8):(reprText (⟨#[c]⟩:Str)).length<=100:=by
 have:=StrLaws.reprText_len ⟨#[c]⟩ (λ d B=>by
  have e:d=c:=by simpa using B
  exact e▸h)
 exact av this (show 10 * 1+2<=100 by decide)
theorem Fc {x y:Str}{S}{p k j c:Nat}(G:Top1 w V mg mb)(Y:fc ph G)(H:V a=some o)(F:EQ pp w o S)(U:uD x S y p k j c)(hx:x.length<2 ^ 24):
  br pp w V 3 (G.fn 13) [.str x,.int p,.str y] [("error_on",.obj a),("error_on_eof",.bool e)] ph ph (.ref G.bX):=by
 have D:=G.d 13;have M:x.length<=aH:=by rw[ak];lia
 have Ts:p<=k:=dq (c7 U.lo U.hi);have I:j<x.length:=gb U.hi U.le;refine br.of_body (loc:=[("src",.str x),("pos",.int p),("expect",.str y),("error_on",.obj a),("error_on_eof",.bool e)]) (ln:=ua x y a e k j) G.T D.fn (re.BS λ u v t p q=>D.binds λ _=>rfl) (D.locs ["src","pos","expect","error_on","error_on_eof"] (by decide) rfl) ?_;intro A L J R C;have K:=D.mt (L:=L);obtain⟨B,tJ⟩:=U.sg;have AB:cL x y (bg x.length (p:Int)) x.length 1=k::B:=by
  have:bg x.length (p:Int)=p:=by unfold bg;rw[(if_neg qh)];exact rfl
  rw[this];exact tJ
 refine XX.cons (SJ.mL (XJ.cons (SJ.assign K (.inl (D.kind rfl)) (EJ.io (EJ.loc rfl (D.kind rfl) K) on.index (am.cons (EJ.loc rfl (D.kind rfl) K) (am.cons (EJ.loc rfl (D.kind rfl) K) am.nil)) (ds.xe AB))) XJ.nil)) ?_;refine XX.head (SX.iff (b:=true) (TJ.not (b:=false) (TJ.val (EJ.io (v:=.obj a) (EJ.loc rfl (D.kind rfl) K) (on.isdisjoint H F) (am.cons (EJ.qR (EJ.loc rfl (D.kind rfl) K) (PJ.some (EJ.loc rfl (D.kind rfl) K)) (PJ.some (EJ.loc rfl (D.kind rfl) K)) M Ts U.le) am.nil) (ds.isdisjoint R.handled H F)) ?_)) ?_)
 .show VT _ _ _ _ _ (.bool (((x.cps.toList.drop p).take (k - p)).toArray.toList.all _)) _ _;rw[List.toList_toArray,U.all];exact VT.bool
 .have Z:p+(j - p)=j:=by have:=U.lo;lia
  have W:WJ pp w V A (callEnvC (G.fd 13) L (G.fn 13)) (dP (gl (dh (gl (ay (sA 13)) 1) 0) 0)) (TI (gl (dh (gl (ay (sA 13)) 1) 0) 0)) [] (j - p) ⟨ua x y a e k p,ph,J⟩ ⟨ua x y a e k j,ph,J⟩ .next:=by
   refine WJ.steps (j - p) (λ i=>⟨ua x y a e k (p+i),ph,J⟩) (λ i E=>?_) ?_
   .obtain⟨d,Q,T⟩:=U.good (p+i) (by lia) (by lia);have N:(!S (wP d))=true:=by rw[T];rfl
    exact⟨N▸TJ.li (EJ.sub (EJ.loc rfl (D.kind rfl) K) (EJ.loc rfl (D.kind rfl) K) (GJ.str (fU (by lia)) (ir Q))) (EJ.loc rfl (D.kind rfl) K) (CJ.notin_froz H F),
     XJ.sw (XJ.cons (SJ.oo K (D.kind rfl) rfl EJ.ci) XJ.nil) (aw.cons rfl (aw.cons rfl (aw.cons rfl (aw.cons rfl (aw.cons rfl (aw.cons rfl .nil))))))⟩
   .rw[Z];have N:(!S (wP c))=false:=by rw[U.bad];rfl
    exact .done 0 (N▸TJ.li (EJ.sub (EJ.loc rfl (D.kind rfl) K) (EJ.loc rfl (D.kind rfl) K) (GJ.str (fU (by lia)) (ir U.at_))) (EJ.loc rfl (D.kind rfl) K) (CJ.notin_froz H F)) XJ.nil
  refine XX.cons (al:=⟨ua x y a e k j,ph,J⟩) (SJ.while W) (XX.head (SX.wA G.iP R.handled ?_));have O:=FG U.small;refine EE.k9 (m:=gU ++ "Found invalid character " ++ reprText (⟨#[c]⟩:Str)) G Y K ⟨R.depth,R.units⟩ C.cw hx (by lia) ?_ (D.kind rfl) (am.cons (EJ.loc rfl (D.kind rfl) K) (am.cons (EJ.loc rfl (D.kind rfl) K) (am.cons (EJ.wz (.cons EJ.cs (.cons (EJ.Ic (EJ.sub (EJ.loc rfl (D.kind rfl) K) (EJ.loc rfl (D.kind rfl) K) (GJ.str (fU (by lia)) (ir U.at_))) ?_) .nil)) ?_) am.nil)))
  .rw[bQ,bQ];have:gU.length+("Found invalid character " : Str).length<=100:=by decide
   lia
  .rw[ak];exact av O (by decide)
  .show(gU ++ "Found invalid character " ++ reprText (⟨#[c]⟩:Str)).length<=_;rw[bQ,bQ,ak];have:gU.length+("Found invalid character " : Str).length<=100:=by decide
   lia
end
theorem RJ.sw {α:Type}{pg:aK}{w:aA}{V:Im}{A:aD}{ew:aB}{st al:PS}{m:Sem α}(h:RJ pg w V A ew m st al cls)(J:aw l al.loc):RJ pg w V A ew m st {al with loc:=l} cls:=λ I r s Q E k q=>
 h _ _ _ _ _ k λ G B p e a b c d X=>q _ _ _ _ a b (c.sw J) d (by
  have O:∀{a},Sc ew al G B a->Sc ew {al with loc:=l} G B a:=λ O=>⟨O.im,O.gB,O.fr,O.fs⟩
  apply bd;intro D;obtain⟨H,g,f,T,Z,C⟩:x24:=X.obj;apply D;refine⟨O X.out,X.ctx,H,g,f,T,Z,C.imp id λ C=>?_⟩;apply bd;intro D;obtain⟨L,jQ,N,x,R,Y,j,o,M,U⟩:x420402:=C;apply D;exact⟨L,jQ,N,x,R,Y,j,o,M,O U⟩)
inductive oV (x:Str):Nat->Prop
 |bad {p k j c}:x.cps[UF x On p]? = some 35->uD x ct ⟨#[10]⟩ (UF x On p+1) k j c->oV x p
 |go {p q}:jN x (UF x On p) q->q≠p->q<2 ^ 31->oV x q->oV x p
section
variable {f:Addr}{fd:aU}
theorem MC {x:Str}{p k j c:Nat}(G:Top1 w V mg mb)(H:fc ph G)(B:x.cps[p]? = some 35)(U:uD x ct ⟨#[10]⟩ (p+1) k j c)(hx:x.length<2 ^ 24):
  br pp w V 4 (G.fn 14) [.str x,.int p] [] ph ph (.ref G.bX):=by
 have D:=G.d 14;have N:p<x.length:=(lI.mp B).1;refine br.of_body (loc:=[("src",.str x),("pos",.int p)]) (ln:=[("char",.str ⟨#[35]⟩),("src",.str x),("pos",.int p)]) G.T D.fn (re.p2 λ u v=>D.binds λ _=>rfl) (D.locs ["src","pos"] (by decide) rfl) ?_;intro A L J R C;have K:=D.mt (L:=L);have e:((⟨#[35]⟩:Str)==("#" : Str))=true:=by decide
 refine XX.cons (SJ.mL (XJ.cons (SJ.assign K (.inl (D.kind rfl)) (EJ.sub (EJ.loc rfl (D.kind rfl) K) (EJ.loc rfl (D.kind rfl) K) (GJ.str (fU (ia (c7 N hx) rfl)) (ir B)))) XJ.nil)) (XX.head (SX.iff (b:=true) (e▸TJ.li (EJ.loc rfl (D.kind rfl) K) EJ.cs CJ.eq_str) (XX.head (SX.ret ?_))));have M:=G.d 13;obtain⟨o,Ok,At⟩:=M.fn.at_;refine RX.t8 (lv:=⟨[("char",.str ⟨#[35]⟩),("src",.str x),("pos",.int p)],ph,J⟩) (EJ.top G K 13 rfl (D.kind rfl)) Ok At (am.cons (EJ.loc rfl (D.kind rfl) K) (am.cons (EJ.bin (EJ.loc rfl (D.kind rfl) K) EJ.ci BJ.add_int) (am.cons EJ.cs am.nil))) (bM.cons (EJ.glob G.T K (D.kind rfl) G.sv (λ _ _ _=>.obj _)) (bM.cons EJ.fu bM.nil)) ?_ R C.cw;exact Fc G H G.oj G.og U hx
theorem P1 {x:Str}{p:Nat}(G:Top1 w V mg mb)(O:fc ph G)(U:oV x p)(hx:x.length<2 ^ 24)(H:p<2 ^ 31):
  br pp w V 5 (G.fn 15) [.str x,.int p] [] ph ph (.ref G.bX):=by
 have D:=G.d 15;refine br.of_body (loc:=[("src",.str x),("pos",.int p)]) (ln:=[("src",.str x)]) G.T D.fn (re.p2 λ u v=>D.binds λ _=>rfl) (D.locs ["src","pos"] (by decide) rfl) ?_;intro A L M R C;have K:=D.mt (L:=L);obtain⟨Z,n4,oR⟩:=(G.d 14).fn.at_;have B:∀p,p<2 ^ 31->oV x p->∃n,WX pp w V A (callEnvC (G.fd 15) L (G.fn 15)) (dP (gl (ay (sA 15)) 0)) (TI (gl (ay (sA 15)) 0)) n ⟨[("src",.str x),("pos",.int p)],ph,M⟩ ⟨[("src",.str x)],ph,M⟩ (.ref G.bX):=by
  intro p H U
  induction U with
  | @bad p k j c N J=>
   refine⟨0,.body 0 (TJ.val EJ.fu VT.bool) ?_⟩;refine RJ.sw (al:=⟨[("pos",.int (UF x On p:Nat)),("pos_before_skip",.int p),("src",.str x),("pos",.int p)],ph,M⟩) ?_ (aw.cons rfl .nil);exact XX.cons (SJ.assign K (.inl (D.kind rfl)) (EJ.loc rfl (D.kind rfl) K)) (XX.cons (Jq G (R.mono (by decide)) C hx H) (XX.head (SX.assign (RX.bq (EJ.top G K 14 rfl (D.kind rfl)) n4 oR (am.cons (EJ.loc rfl (D.kind rfl) K) (am.cons (EJ.loc rfl (D.kind rfl) K) am.nil)) (MC G O N J hx) R C.cw))))
  | @go p I N J Y Q T=>
   obtain⟨n,W⟩:=T Y;exact⟨n+1,.next (TJ.val EJ.fu VT.bool) (EO G (R.mono (by decide)) C hx H N J) (.inl rfl) W⟩
 obtain⟨n,W⟩:=B p H U;exact XX.head (SX.while C W)
theorem Gv {x:Str}{p:Nat}(G:Top1 w V mg mb)(h:br pp w V 3 (G.fn 13) [.str x,.int ((p:Int)+1),.str ⟨#[39]⟩] [("error_on",.obj G.ill),("error_on_eof",.bool true)] ph ph (.ref G.bX)):
  br pp w V 4 (G.fn 17) [.str x,.int p] [] ph ph (.ref G.bX):=by
 have D:=G.d 17;refine br.of_body (loc:=[("src",.str x),("pos",.int p)]) (ln:=[("start_pos",.int ((p:Int)+1)),("pos",.int ((p:Int)+1)),("src",.str x),("pos",.int p)]) G.T D.fn (re.p2 λ u v=>D.binds λ _=>rfl) (D.locs ["src","pos"] (by decide) rfl) ?_;intro A L B R C;have K:=D.mt (L:=L);obtain⟨o,Ok,At⟩:=(G.d 13).fn.at_;refine XX.cons (SJ.oo K (D.kind rfl) rfl EJ.ci) (XX.cons (SJ.assign K (.inl (D.kind rfl)) (EJ.loc rfl (D.kind rfl) K)) (XX.head (SX.assign ?_)));exact RX.t8 (lv:=⟨[("start_pos",.int ((p:Int)+1)),("pos",.int ((p:Int)+1)),("src",.str x),("pos",.int p)],ph,B⟩) (EJ.top G K 13 rfl (D.kind rfl)) Ok At (am.cons (EJ.loc rfl (D.kind rfl) K) (am.cons (EJ.loc rfl (D.kind rfl) K) (am.cons EJ.cs am.nil))) (bM.cons (EJ.glob G.T K (D.kind rfl) G.sm (λ _ _ _=>.obj _)) (bM.cons EJ.fu bM.nil)) h R C.cw
theorem Xu {x:Str}{p:Nat}(G:Top1 w V mg mb)(J:fc ph G)(N:p<=x.length)(T:x.length<p+4)(hx:x.length<2 ^ 24):
  br pp w V 3 (G.fn 16) [.str x,.int p,.int 4] [] ph ph (.ref G.bX):=by
 have D:=G.d 16;have B:x.length<=aH:=by rw[ak];lia
 refine br.of_body (loc:=[("src",.str x),("pos",.int p),("hex_len",.int 4)]) (ln:=[("hex_str",.str (Op x p x.length)),("src",.str x),("pos",.int p),("hex_len",.int 4)]) G.T D.fn (re.p3 λ u v t=>D.binds λ _=>rfl) (D.locs ["src","pos","hex_len"] (by decide) rfl) ?_;intro A L O R C;have K:=D.mt (L:=L);have M:=OM (a:=p) (aJ x.length);have H:(((Op x p x.length).length:Int) != (4:Int))=true:=by
  rw[M,(bne_iff_ne)];lia
 refine XX.cons (SJ.assign (v:=.str (Op x p x.length)) K (.inl (D.kind rfl)) (EJ.m8 (some p) (some (p+4)) (EJ.loc rfl (D.kind rfl) K) (PJ.some (EJ.loc rfl (D.kind rfl) K)) (PJ.some (EJ.bin (EJ.loc rfl (D.kind rfl) K) (EJ.loc rfl (D.kind rfl) K) BJ.add_int)) B (by show min p x.length=p;lia) (by show min (p+4) x.length=x.length;lia) N)) ?_;refine XX.head (SX.iff (b:=true) (TJ.Ju (H▸TJ.li (EJ.bY (EJ.builtin G K (λ _ _=>.blt _) (D.kind rfl)) (am.cons (EJ.loc rfl (D.kind rfl) K) am.nil) (ds.len_str (by lia))) (EJ.loc rfl (D.kind rfl) K) CJ.ne_int)) (XX.head (SX.wA G.iP R.handled ?_)));exact EE.k9 G J K R.r0 C.cw hx (by lia) (by decide) (D.kind rfl) (am.cons (EJ.loc rfl (D.kind rfl) K) (am.cons (EJ.loc rfl (D.kind rfl) K) (am.cons EJ.cs am.nil)))
theorem RF {x:Str}{p a b c d:Nat}(G:Top1 w V mg mb)(J:fc ph G)(M:Op x p (p+4)=⟨#[a,b,c,d]⟩)(O:p+4<=x.length)(N:fg (wP d)=false)(hx:x.length<2 ^ 24):
  br pp w V 3 (G.fn 16) [.str x,.int p,.int 4] [] ph ph (.ref G.bX):=by
 have D:=G.d 16;have B:x.length<=aH:=by rw[ak];lia
 refine br.of_body (loc:=[("src",.str x),("pos",.int p),("hex_len",.int 4)]) (ln:=[("hex_str",.str ⟨#[a,b,c,d]⟩),("src",.str x),("pos",.int p),("hex_len",.int 4)]) G.T D.fn (re.p3 λ u v t=>D.binds λ _=>rfl) (D.locs ["src","pos","hex_len"] (by decide) rfl) ?_;intro A L H R C;have K:=D.mt (L:=L);refine XX.cons (SJ.assign (v:=.str ⟨#[a,b,c,d]⟩) K (.inl (D.kind rfl)) (M▸EJ.qR (a:=p) (b:=p+4) (EJ.loc rfl (D.kind rfl) K) (PJ.some (EJ.loc rfl (D.kind rfl) K)) (PJ.some (EJ.bin (EJ.loc rfl (D.kind rfl) K) (EJ.loc rfl (D.kind rfl) K) BJ.add_int)) B (by lia) O)) ?_;refine XX.head (SX.iff (al:=⟨[("hex_str",.str ⟨#[a,b,c,d]⟩),("src",.str x),("pos",.int p),("hex_len",.int 4)],ph,H⟩) (b:=true) (TJ.m5 (al:=⟨[("hex_str",.str ⟨#[a,b,c,d]⟩),("src",.str x),("pos",.int p),("hex_len",.int 4)],ph,H⟩) ?_ (TJ.Ju ?_)) (XX.head (SX.wA G.iP R.handled ?_)))
 .exact TJ.li (EJ.bY (EJ.builtin G K (λ _ _=>.blt _) (D.kind rfl)) (am.cons (EJ.loc rfl (D.kind rfl) K) am.nil) (ds.len_str (show 4<2 ^ 62 by decide))) (EJ.loc rfl (D.kind rfl) K) CJ.ne_int
 .refine TJ.not (b:=false) (TJ.val (EJ.io (v:=.obj G.hex) (EJ.glob G.T K (D.kind rfl) G.qd (λ _ _ _=>.obj _)) (on.issuperset G.kj G.kT) (am.cons (EJ.loc rfl (D.kind rfl) K) am.nil) (ds.issuperset R.handled G.kj G.kT)) ?_);have:(([a,b,c,d]:List Nat).all λ c=>fg (wP c))=false:=by simp[N]
  show VT _ _ _ _ _ (.bool (([a,b,c,d]:List Nat).all _)) _ _;rw[this];exact VT.bool
 .exact EE.k9 G J K R.r0 C.cw hx (by lia) (by decide) (D.kind rfl) (am.cons (EJ.loc rfl (D.kind rfl) K) (am.cons (EJ.loc rfl (D.kind rfl) K) (am.cons EJ.cs am.nil)))
theorem Nc {n:Nat}(G:Top1 w V mg mb)(h:55296<=n)(J:n<57344):
  nb pp w V 1 (G.fn 19) [.int n] [] ph ph (.bool false):=by
 have D:=G.d 19;refine nb.of_body (loc:=[("codepoint",.int n)]) (fl:=.ret (.bool false)) (ln:=[("codepoint",.int n)]) G.T D.fn (re.p1 λ u=>D.binds λ _=>rfl) (D.locs ["codepoint"] (by decide) rfl) ?_;intro A L H R C;have K:=D.mt (L:=L);have e1:decide ((0:Int)<=(n:Int))=true:=by simp
 have e2:decide ((n:Int)<=55295)=false:=by simp;lia
 have B:decide ((57344:Int)<=(n:Int))=false:=by simp;lia
 exact XJ.ret (SJ.ret (EJ.Il (EJ.Au (x:=true) (y:=false) EJ.ci (EJ.loc rfl (D.kind rfl) K) (e1▸CJ.le_int) ⟨_,EJ.ci,e2▸CJ.le_int⟩) VT.bool (EJ.Au (x:=false) (y:=false) EJ.ci (EJ.loc rfl (D.kind rfl) K) (B▸CJ.le_int) ⟨rfl,rfl⟩)))
theorem R5 {x:Str}{p a b c d:Nat}(G:Top1 w V mg mb)(N:fc ph G)(H:ux x p a b c d)(O:55296<=c6 a b c d)(ja:c6 a b c d<57344)(hx:x.length<2 ^ 24):
  br pp w V 3 (G.fn 16) [.str x,.int p,.int 4] [] ph ph (.ref G.bX):=by
 have D:=G.d 16;have J:x.length<=aH:=by rw[ak];lia
 refine br.of_body (loc:=[("src",.str x),("pos",.int p),("hex_len",.int 4)]) (ln:=[("hex_int",.int (c6 a b c d)),("pos",.int ((p:Int)+4)),("hex_str",.str ⟨#[a,b,c,d]⟩),("src",.str x),("pos",.int p),("hex_len",.int 4)]) G.T D.fn (re.p3 λ u v t=>D.binds λ _=>rfl) (D.locs ["src","pos","hex_len"] (by decide) rfl) ?_;intro A L B R C;have K:=D.mt (L:=L);obtain⟨o,Ok,At⟩:=(G.d 19).fn.at_;have M:a∈XL:=(by decide:∀a∈([56,52,97,99,65,67,100,68]:List Nat),a∈XL) a H.ha;refine XX.cons (SJ.assign (v:=.str ⟨#[a,b,c,d]⟩) K (.inl (D.kind rfl)) (H.at_▸EJ.qR (a:=p) (b:=p+4) (EJ.loc rfl (D.kind rfl) K) (PJ.some (EJ.loc rfl (D.kind rfl) K)) (PJ.some (EJ.bin (EJ.loc rfl (D.kind rfl) K) (EJ.loc rfl (D.kind rfl) K) BJ.add_int)) J (by lia) H.le)) ?_;refine XX.cons (al:=⟨[("hex_str",.str ⟨#[a,b,c,d]⟩),("src",.str x),("pos",.int p),("hex_len",.int 4)],ph,B⟩) (SJ.iff (al:=⟨[("hex_str",.str ⟨#[a,b,c,d]⟩),("src",.str x),("pos",.int p),("hex_len",.int 4)],ph,B⟩) (b:=false) (TJ.m5 (al:=⟨[("hex_str",.str ⟨#[a,b,c,d]⟩),("src",.str x),("pos",.int p),("hex_len",.int 4)],ph,B⟩) ?_ (TJ.m5 ?_ TJ.or_nil)) XJ.nil) ?_
 .exact TJ.li (EJ.bY (EJ.builtin G K (λ _ _=>.blt _) (D.kind rfl)) (am.cons (EJ.loc rfl (D.kind rfl) K) am.nil) (ds.len_str (show 4<2 ^ 62 by decide))) (EJ.loc rfl (D.kind rfl) K) CJ.ne_int
 .refine TJ.not (b:=true) (TJ.val (EJ.io (v:=.obj G.hex) (EJ.glob G.T K (D.kind rfl) G.qd (λ _ _ _=>.obj _)) (on.issuperset G.kj G.kT) (am.cons (EJ.loc rfl (D.kind rfl) K) am.nil) (ds.issuperset R.handled G.kj G.kT)) ?_);have:(([a,b,c,d]:List Nat).all λ c=>fg (wP c))=true:=by simp[m1 M,m1 H.hb,m1 H.hc,m1 H.hd]
  show VT _ _ _ _ _ (.bool (([a,b,c,d]:List Nat).all _)) _ _;rw[this];exact VT.bool
 refine XX.cons (SJ.oo K (D.kind rfl) rfl (EJ.loc rfl (D.kind rfl) K)) ?_;refine XX.cons (SJ.assign K (.inl (D.kind rfl)) (EJ.fk (EJ.builtin G K (λ _ _=>.typ _) (D.kind rfl)) (am.cons (EJ.loc rfl (D.kind rfl) K) (am.cons EJ.ci am.nil)) (ds.Ee H.ha H.hb H.hc H.hd))) ?_;refine XX.head (SX.iff (b:=true) (TJ.not (b:=false) (TJ.val (EJ.bq (EJ.top G K 19 rfl (D.kind rfl)) Ok At (am.cons (EJ.loc rfl (D.kind rfl) K) am.nil) (Nc G O ja) (R.mono (by decide)) C.cw) VT.bool)) (XX.head (SX.wA G.iP R.handled ?_)));have T:=H.le;exact EE.k9 (p:=p+4) G N K R.r0 C.cw hx (by lia) (by decide) (D.kind rfl) (am.cons (EJ.loc rfl (D.kind rfl) K) (am.cons (EJ.loc rfl (D.kind rfl) K) (am.cons EJ.cs am.nil)))
end
noncomputable def GQ:List aC:=dh (gl (ay (sA 56)) 1) 0
noncomputable def fJ:aC:=gl GQ 1
noncomputable def lq:aC:=gl (TI fJ) 0
noncomputable def tp (s:aC):List aC:=dh s 0
noncomputable def Qz (s:aC):List aC:=dh s 1
noncomputable def EL (s:aC):aF:=KT s 0
noncomputable def wr (x:Str)(p:Nat)(rs:List RR):List (Str×PV):=[("place",.int p),("records",.lst (rs.map RR.pv)),("text",.str x)]
theorem Mv {α:Type}{l:List α}{z:α}:fA (l++[z]) none (some (-1))=l:=by
 show((l++[z]).drop 0).take (clipAt (l++[z]).length (-1) - 0)=_;rw[List.drop_zero,Nat.sub_zero,aP,List.length_singleton,Mm,vk (aJ _),List.take_length]
theorem Mc {x:Str}{p a b c d:Nat}{rs:List RR}{ph:List PO}{L:Addr}(G:Top1 w V mg mb)(B:wn A 3)(C:Ctx A (callEnvC (G.fd 56) L (G.fn 56)) fs)(H:ux x p a b c d)(M:c6 a b c d<55296)(hx:x.length<2 ^ 24)(J:rs.length<=1000):
  XJ pp w V A (callEnvC (G.fd 56) L (G.fn 56)) (Qz lq) ⟨wr x p rs,ph,fs⟩ ⟨wr x (p+4) (LT rs (.WF a b c d)),ph,fs⟩ .next:=by
 have D:=G.d 56;have K:=D.mt (L:=L);obtain⟨o,Ok,At⟩:=(G.d 16).fn.at_;refine XJ.sw (l:=wr x (p+4) (LT rs (.WF a b c d))) (al:=⟨("records",.lst ((LT rs (.WF a b c d)).map RR.pv))::("sign",.str ⟨#[c6 a b c d]⟩)::("place",.int (p+4:Nat))::wr x p rs,ph,fs⟩) (XJ.cons (SJ.assign_tuple (EJ.bq (bi:=⟨wr x p rs,ph,fs⟩) (EJ.top G K 16 rfl (D.kind rfl)) Ok At (am.cons (EJ.loc rfl (D.kind rfl) K) (am.cons (EJ.loc rfl (D.kind rfl) K) (am.cons EJ.ci am.nil))) (Og G H M hx) (B.mono (by decide)) C.cw) (AJ.kE B.handled (.cons (AJ.name K (.inl (D.kind rfl))) (.cons (AJ.name K (.inl (D.kind rfl))) .nil rfl) rfl))) (XJ.cons (SJ.assign K (.inl (D.kind rfl)) (EJ.val _ (EJ.bin (EJ.loc rfl (D.kind rfl) K) (EJ.list (am.cons (EJ.list (am.cons (EJ.bY (EJ.builtin G K (λ _ _=>.blt _) (D.kind rfl)) (am.cons (EJ.loc rfl (D.kind rfl) K) am.nil) ds.ord) (am.cons EJ.const_none (am.cons (EJ.list am.nil (by rw[ak];simp)) am.nil))) (by rw[ak];simp)) am.nil) (by rw[ak];simp)) (BJ.eg (by rw[ak];simp;exact ww J rfl))) ?_)) XJ.nil)) (aw.cons rfl (aw.cons rfl (aw.cons rfl .nil)));unfold LT;rw[aY];rfl
theorem Xi {x y:Str}{p k:Nat}{rs:List RR}{r:RR}{ph:List PO}{L:Addr}(G:Top1 w V mg mb)(M:wn A 3)(C:Ctx A (callEnvC (G.fd 56) L (G.fn 56)) fs)(U:sH x ct ⟨#[39]⟩ (p+1) k)(T:Op x (p+1) k=y)(hx:x.length<2 ^ 24)(H:rs.length<=1000)(J:r.kt.length<=1000):
  XJ pp w V A (callEnvC (G.fd 56) L (G.fn 56)) (tp lq) ⟨wr x p (rs++[r]),ph,fs⟩ ⟨wr x (k+1) (rs++[r.put y]),ph,fs⟩ .next:=by
 have D:=G.d 56;have K:=D.mt (L:=L);obtain⟨o,Ok,At⟩:=(G.d 17).fn.at_;have N:=Sn (ph:=ph) G U hx;rw[T] at N;have Y:SJ pp w V A (callEnvC (G.fd 56) L (G.fn 56)) (gl (tp lq) 0) ⟨wr x p (rs++[r]),ph,fs⟩ ⟨("name",.str y)::("place",.int (k+1:Nat))::wr x p (rs++[r]),ph,fs⟩ .next:=
  SJ.assign_tuple (EJ.bq (bi:=⟨wr x p (rs++[r]),ph,fs⟩) (EJ.top G K 17 rfl (D.kind rfl)) Ok At (am.cons (EJ.loc rfl (D.kind rfl) K) (am.cons (EJ.loc rfl (D.kind rfl) K) am.nil)) N (M.mono (by decide)) C.cw) (AJ.kE M.handled (.cons (AJ.name K (.inl (D.kind rfl))) (.cons (AJ.name K (.inl (D.kind rfl))) .nil rfl) rfl))
 have oH:(((rs++[r]).map RR.pv))[((-1:Int)+((rs++[r]).map RR.pv).length).toNat]? = some r.pv:=by
  have:((-1:Int)+((rs++[r]).map RR.pv).length).toNat=rs.length:=by simp;lia
  rw[this,aY,fF (by simp)]
  simp
 have R:SJ pp w V A (callEnvC (G.fd 56) L (G.fn 56)) (gl (tp lq) 1) ⟨("name",.str y)::("place",.int (k+1:Nat))::wr x p (rs++[r]),ph,fs⟩ ⟨("last",r.pv)::("name",.str y)::("place",.int (k+1:Nat))::wr x p (rs++[r]),ph,fs⟩ .next:=
  SJ.assign K (.inl (D.kind rfl)) (EJ.sub (EJ.loc rfl (D.kind rfl) K) (EJ.neg EJ.ci) (GJ.S9 (by decide) (by simp;lia) (by decide) oH))
 have eO:EJ pp w V A (callEnvC (G.fd 56) L (G.fn 56)) (sub (KT (gl (tp lq) 2) 0) 0) ⟨("last",r.pv)::("name",.str y)::("place",.int (k+1:Nat))::wr x p (rs++[r]),ph,fs⟩ ⟨("last",r.pv)::("name",.str y)::("place",.int (k+1:Nat))::wr x p (rs++[r]),ph,fs⟩ (.lst (rs.map RR.pv)):=by
  refine EJ.val _ (EJ.rk (xs:=(rs++[r]).map RR.pv) (EJ.loc rfl (D.kind rfl) K) PJ.none (PJ.some (EJ.neg EJ.ci)) (by rw[ak];simp;exact ww H rfl)) ?_;rw[aY];exact congrArg PV.lst Mv
 have Z:SJ pp w V A (callEnvC (G.fd 56) L (G.fn 56)) (gl (tp lq) 2) ⟨("last",r.pv)::("name",.str y)::("place",.int (k+1:Nat))::wr x p (rs++[r]),ph,fs⟩ ⟨("records",.lst ((rs++[r.put y]).map RR.pv))::("last",r.pv)::("name",.str y)::("place",.int (k+1:Nat))::wr x p (rs++[r]),ph,fs⟩ .next:=by
  have AQ:(PV.lst (rs.map RR.pv++[(r.put y).pv])) = .lst ((rs++[r.put y]).map RR.pv):=by rw[aY];rfl
  rw[<-AQ];obtain(⟨B,O,kt⟩):=r;have mo:kt.length<=1000:=J
  cases O with
  |none=>
   exact SJ.assign K (.inl (D.kind rfl)) (EJ.bin eO (EJ.list (am.cons (EJ.fq (b:=true) (TJ.li (EJ.sub (EJ.loc rfl (D.kind rfl) K) EJ.ci (GJ.lst (by decide) (by decide) rfl)) EJ.const_none CJ.is_none) (EJ.list (am.cons (EJ.sub (EJ.loc rfl (D.kind rfl) K) EJ.ci (GJ.lst (by decide) (by decide) rfl)) (am.cons (EJ.loc rfl (D.kind rfl) K) (am.cons (EJ.list am.nil (by rw[ak];simp)) am.nil))) (by rw[ak];simp))) am.nil) (by rw[ak];simp)) (BJ.eg (by rw[ak];simp;exact ww H rfl)))
  |some z=>
   have XB:(RR.put ⟨B,some z,kt⟩ y).pv = .lst [.int B,.str z,.lst (kt.map .str++[.str y])]:=by
    show PV.lst [_,_,.lst ((kt++[y]).map .str)]=_;rw[aY];rfl
   rw[XB];exact SJ.assign K (.inl (D.kind rfl)) (EJ.bin eO (EJ.list (am.cons (EJ.fq (b:=false) (TJ.li (EJ.sub (EJ.loc rfl (D.kind rfl) K) EJ.ci (GJ.lst (by decide) (by decide) rfl)) EJ.const_none CJ.is_none) (EJ.list (am.cons (EJ.sub (EJ.loc rfl (D.kind rfl) K) EJ.ci (GJ.lst (by decide) (by decide) rfl)) (am.cons (EJ.sub (EJ.loc rfl (D.kind rfl) K) EJ.ci (GJ.lst (by decide) (by decide) rfl)) (am.cons (EJ.bin (EJ.sub (EJ.loc rfl (D.kind rfl) K) EJ.ci (GJ.lst (by decide) (by decide) rfl)) (EJ.list (am.cons (EJ.loc rfl (D.kind rfl) K) am.nil) (by rw[ak];simp)) (BJ.eg (by rw[ak];simp;exact ww J rfl))) am.nil))) (by rw[ak];simp))) am.nil) (by rw[ak];simp)) (BJ.eg (by rw[ak];simp;exact ww H rfl)))
 exact XJ.sw (l:=wr x (k+1) (rs++[r.put y])) (XJ.cons Y (XJ.cons R (XJ.cons Z XJ.nil))) (aw.cons rfl (aw.cons rfl (aw.cons rfl .nil)))
theorem WB (r:RR)(y:Str):(r.put y).kt.length<=r.kt.length+1:=by
 obtain(⟨o,n,l⟩):=r
 cases n with
 |none=>show 0<=_;exact eb ..
 |some z=>show(l++[y]).length<=_;rw[aP];simp
theorem ES {x:Str}{ph:List PO}{L:Addr}(G:Top1 w V mg mb)(Y:wn A 3)(C:Ctx A (callEnvC (G.fd 56) L (G.fn 56)) fs)(hx:x.length<2 ^ 24){t:Tk}{pre post:List Nat}{rs:List RR}(O:x.cps.toList=pre++t.code++post)(J:t.OK)(E:rs=[]->jC t=true)
  (R:rs.length<=500) (g:∀r∈rs,r.kt.length<=500):
  TJ pp w V A (callEnvC (G.fd 56) L (G.fn 56)) (dP fJ) ⟨wr x pre.length rs,ph,fs⟩ ⟨wr x pre.length rs,ph,fs⟩ true/\SJ pp w V A (callEnvC (G.fd 56) L (G.fn 56)) lq ⟨wr x pre.length rs,ph,fs⟩ ⟨wr x (pre++t.code).length (LT rs t),ph,fs⟩ .next:=by
 have D:=G.d 56;have K:=D.mt (L:=L);have M:0<t.code.length:=by cases t<;>simp[Tk.code]
 have N:pre.length<x.length:=by
  show _<x.cps.size;rw[<-ed,O];simp;exact gb M (dW ..)
 have I:decide (((pre.length:Nat):Int)<(x.length:Nat))=true:=decide_eq_true (Int.ofNat_lt.mpr N);refine⟨I▸TJ.li (EJ.loc rfl (D.kind rfl) K) (EJ.bY (EJ.builtin G K (λ _ _=>.blt _) (D.kind rfl)) (am.cons (EJ.loc rfl (D.kind rfl) K) am.nil) (ds.len_str (ww hx rfl))) CJ.lt_int,?_⟩;have Fq:∀c:Nat,t.code.head? = some c->x.cps[pre.length]? = some c:=λ c B=>by
  rw[show x.cps[pre.length]? = x.cps.toList[pre.length]? by simp,O,eH,fF (aJ _),Nat.sub_self,<-List.head?_eq_getElem?]
  cases e:t.code with
  |nil=>rw[e] at B;cases B
  |cons a r=>rw[e] at B;simpa using B
 have FT:∀c:Nat,x.cps[pre.length]? = some c->TJ pp w V A (callEnvC (G.fd 56) L (G.fn 56)) (EL lq) ⟨wr x pre.length rs,ph,fs⟩ ⟨wr x pre.length rs,ph,fs⟩ ((⟨#[c]⟩:Str) == "'"):=λ c B=>
  TJ.li (EJ.sub (EJ.loc rfl (D.kind rfl) K) (EJ.loc rfl (D.kind rfl) K) (GJ.str (fU (ia (c7 N hx) rfl)) (ir B))) EJ.cs CJ.eq_str
 cases t with
 |WF a b c d=>
  obtain⟨Z,f,o3,Q,k⟩:x0402:=J;have H:ux x pre.length a b c d:=by
   refine⟨w1 (mid:=[a,b,c,d]) (post:=post) (by rw[O];simp[Tk.code]),?_,Z,f,o3,Q⟩;show _<=x.cps.size;rw[<-ed,O];simp[Tk.code]
  have T:((⟨#[a]⟩:Str) == "'")=false:=(by decide:∀a∈([56,52,97,99,65,67,100,68]:List Nat),((⟨#[a]⟩:Str) == "'")=false) a Z;have:=Mc (ph:=ph) G Y C H k hx (rs:=rs) (ww R rfl);rw[show(pre++Tk.code (.WF a b c d)).length=pre.length+4 by simp[Tk.code]];exact SJ.iff (b:=false) (T▸FT a (Fq a rfl)) this
 |name y=>
  have rl:rs≠[]:=λ e=>by have:=E e;cases this
  obtain⟨wT,r,rfl⟩:∃wT r,rs=wT++[r]:=⟨rs.dropLast,rs.getLast rl,(List.dropLast_concat_getLast rl).symm⟩;have Q8:LT (wT++[r]) (.name y)=wT++[r.put y]:=by simp[LT]
  have HZ:x.cps.toList=(pre++[39])++y.cps.toList++39::post:=by rw[O];simp[Tk.code]
  have U:=uf (S:=ct) HZ J.1 J.2;have B:=w1 HZ;have j:(pre++([39]:List Nat)).length=pre.length+1:=by simp
  rw[j] at U B;have:=Xi (ph:=ph) (y:=y) (r:=r) (rs:=wT) G Y C U (B.trans (by simp)) hx (by simp at R;exact ww R rfl) (by have:=g r (by simp);exact ww this rfl);rw[Q8,show(pre++Tk.code (.name y)).length=pre.length+1+y.cps.toList.length+1 by simp[Tk.code];exact(Nat.succ_add ..).symm];exact SJ.iff (b:=true) (FT 39 (Fq 39 rfl)) this
set_option tactic.hygienic true in
theorem HB {t:Tk}{rs:List RR}{n:Nat}(D:rs.length<=n)(C:∀r∈rs,r.kt.length<=n):(LT rs t).length<=n+1/\∀r∈LT rs t,r.kt.length<=n+1:=by
 cases t with
 |WF a b c d=>
  refine⟨by unfold LT;rw[aP];exact Nat.succ_le_succ D,λ r B=>?_⟩
  rcases be.mp B with B|B
  .exact lY (C r B)
  .obtain rfl:=aO.mp B;exact eJ _
 |name y=>
  unfold LT;dsimp only
  split
  .rename_i G e
   refine⟨?_,λ r B=>?_⟩
   .rw[aP,List.length_dropLast];simp;exact lY D
   .rcases be.mp B with B|B
    .exact lY (C r (List.dropLast_subset _ B))
    .obtain rfl:=aO.mp B;exact av (WB G y) (Nat.succ_le_succ (C G (List.mem_of_getLast? e)))
  .exact⟨lY D,λ r B=>lY (C r B)⟩
theorem zK {t:Tk}{rs:List RR}(h:rs=[]->jC t=true):LT rs t≠[]:=by
 cases t with
 |WF a b c d=>exact List.append_ne_nil_of_right_ne_nil _ (pq _ _)
 |name y=>
  have rl:rs≠[]:=λ e=>nomatch h e
  unfold LT;rw[List.getLast?_eq_some_getLast rl];exact List.append_ne_nil_of_right_ne_nil _ (pq _ _)
theorem FW {x:Str}{ph:List PO}{L:Addr}(G:Top1 w V mg mb)(Y:wn A 3)(C:Ctx A (callEnvC (G.fd 56) L (G.fn 56)) fs)(hx:x.length<2 ^ 24){post:List Nat}(N:iY post):
  ∀(l:List (Tk×List Nat)) (pre:List Nat) (rs:List RR) (n:Nat),x.cps.toList=pre++pc l++post->(∀p∈l,p.1.OK/\eW p.2)->(rs=[]->∀p,l.head? = some p->jC p.1=true)->rs.length<=n->(∀r∈rs,r.kt.length<=n)->n+l.length<=500 ->
   Ba (FC pp w V A (callEnvC (G.fd 56) L (G.fn 56)) (dP fJ) (TI fJ)) l.length ⟨wr x pre.length rs,ph,fs⟩ ⟨wr x (pre++pc l).length (IR rs l),ph,fs⟩:=by
 intro Z
 induction Z with
 |nil=>
  intro pre rs n R H T U J O;have e:pre++pc []=pre:=nC _;rw[e];exact rfl
 |cons c l M=>
  obtain(⟨t,B⟩):=c;intro pre rs n R H T U J O;have D:=G.d 56;have K:=D.mt (L:=L);apply bd;intro d;obtain⟨o,Ok,At⟩:=(G.d 15).fn.at_;apply d;have JI:pc ((t,B)::l)=t.code++B++pc l:=by unfold pc;rw[dz]
  rw[JI] at R;have Ec:=H _ (aN ..);have Ha:∀p∈l,p.1.OK/\eW p.2:=λ p N=>H p (aT _ N)
  have uv:iY (pc l++post):=by
   cases l with
   |nil=>exact N
   |cons q l=>
    have e:pc (q::l)++post=q.1.code++(q.2++pc l++post):=by unfold pc;rw[dz];simp
    rw[e];exact wu (Ha q (aN ..)).1 _
  have hO:x.cps.toList=(pre++t.code)++B++(pc l++post):=by rw[R];simp
  have uj:=Eh (ph:=ph) G (Qn Ec.2 hO uv hx) hx (p:=(pre++t.code).length) (by
   have:(pre++t.code).length<=x.length:=by
    show _<=x.cps.size;rw[<-ed,hO];simp
   exact ww (c7 this hx) rfl)
  have wJ:rs=[]->jC t=true:=λ e=>T e _ rfl
  simp only[cN] at O;obtain⟨yy,Q⟩:x02:=ES (ph:=ph) (rs:=rs) (pre:=pre) G Y C hx (t:=t) (post:=B++(pc l++post)) (by rw[hO];simp) Ec.1 wJ (by lia) (λ r I=>av (J r I) (zg O));have QX:SJ pp w V A (callEnvC (G.fd 56) L (G.fn 56)) (gl (TI fJ) 1) ⟨wr x (pre++t.code).length (LT rs t),ph,fs⟩ ⟨("place",.int (pre++t.code++B).length)::wr x (pre++t.code).length (LT rs t),ph,fs⟩ .next:=
   SJ.assign K (.inl (D.kind rfl)) (EJ.bq (bi:=⟨wr x (pre++t.code).length (LT rs t),ph,fs⟩) (EJ.top G K 15 rfl (D.kind rfl)) Ok At (am.cons (EJ.loc rfl (D.kind rfl) K) (am.cons (EJ.loc rfl (D.kind rfl) K) am.nil)) uj Y C.cw)
  obtain⟨E,f⟩:x02:=HB (t:=t) U J;have M:=M (pre++t.code++B) (LT rs t) (n+1) (by rw[hO];simp) Ha (λ e=>absurd e (zK wJ)) E f (by lia);have e1:pre++pc ((t,B)::l)=pre++t.code++B++pc l:=by rw[JI];simp
  rw[e1];exact⟨⟨wr x (pre++t.code++B).length (LT rs t),ph,fs⟩,And.intro yy (XJ.sw (l:=wr x (pre++t.code++B).length (LT rs t)) (XJ.cons Q (XJ.cons QX XJ.nil)) (aw.cons rfl (aw.cons rfl (aw.cons rfl .nil)))),M⟩
noncomputable def IC:Scope:={kind:=e8,names:=[(".0",NameKind.local),("record",NameKind.local)],isGenerator:=false,isCoroutine:=false}
noncomputable def Tc:aC:=gl (dh (gl (ay (sA 56)) 1) 1) 0
noncomputable def c0 (rs:List RR):List RR:=rs.filter λ r=>r.name.isSome
theorem uh {α:Type}{n:Nat}{f:α->PV}(h:∀a,PV.lt n (f a)):∀{l:List α},PV.TD n (l.map f):=by
 intro B
 induction B with
 |nil=>
  exact trivial
 |cons a _ C=>
  exact And.intro (h a) (C)
theorem UZ {x:Str}{ph:List PO}{L f:Addr}{fd:aU}{rs:List RR}{p:Nat}{e:Addr}(K:ut (callEnvC (gt fd (sA 56)) L f))(G:wY e A)(H:cZ V e)(hz:rs.length<=500):
  EJ pp w V A (callEnvC (gt fd (sA 56)) L f) (sub (KT Tc 0) 1) ⟨wr x p rs,ph,fs⟩ ⟨wr x p rs,ph,fs⟩ (.lst ((c0 rs).map RR.pv)):=by
 refine EJ.DX (NH:=wY e) (scope:=IC) (cl:=[]) (ge:=[]) (ln:=[]) (v:=.lst (rs.map RR.pv)) G (λ h=>absurd rfl h) (P3.of rfl rfl rfl rfl .nil .nil) (EJ.loc (x:="records") rfl rfl K) (rc.VR H) ?_ ?_
 .intro D d M;refine wf.rows (λ r:RR=>r.name.isSome) (λ _=>trivial) (by rw[ak];exact ww hz rfl) λ r _=>?_
  have B:=K.comp (scope:=IC) (cl:=[]) (C:=D) rfl;refine Fr.qU B (.inl rfl) .nil λ J=>⟨?_,EJ.loc rfl rfl B⟩
  have e1:(!(DR r.name).isNone)=r.name.isSome:=by cases r.name<;>rfl
  exact e1▸TJ.li (EJ.sub (EJ.loc rfl rfl B) EJ.ci (GJ.lst (by decide) (by decide) rfl)) EJ.const_none CJ.isNot_none
 .refine uh (f:=RR.pv) λ r=>?_
  refine And.intro trivial (And.intro ?_ (And.intro fe trivial));cases r.name<;>exact trivial
theorem Gs {x:Str}{ph:List PO}{rs:List RR}{p q:Nat}(G:Top1 w V mg mb)(hx:x.length<2 ^ 24)(hz:rs.length<=500)(Z:jz x 0 q)
  (M:∀A L fs,wn A 5->Ctx A (callEnvC (G.fd 56) L (G.fn 56)) fs->∃n,WX pp w V A (callEnvC (G.fd 56) L (G.fn 56)) (dP fJ) (TI fJ) n ⟨wr x q [],ph,fs⟩ ⟨wr x p rs,ph,fs⟩ (.ref G.bX)):
  nb pp w V 6 (G.fn 56) [.str x] [] ph ph (.lst [.bool true,.lst ((c0 rs).map RR.pv)]):=by
 have D:=G.d 56;refine nb.of_body (loc:=[("text",.str x)]) (fl:=.ret (.lst [.bool true,.lst ((c0 rs).map RR.pv)])) (ln:=[]) G.T D.fn (re.p1 λ u=>D.binds λ _=>rfl) (D.locs ["text"] (by decide) rfl) ?_;intro A L fs R C;have K:=D.mt (L:=L);obtain⟨o,Ok,At⟩:=(G.d 15).fn.at_;obtain⟨n,W⟩:=M A L fs R C;have uj:=Eh (ph:=ph) G Z hx (by decide);have SI:SJ pp w V A (callEnvC (G.fd 56) L (G.fn 56)) (gl GQ 0) ⟨[("records",.lst []),("place",.int 0),("text",.str x)],ph,fs⟩ ⟨wr x q [],ph,fs⟩ .next:=
  SJ.sw (SJ.assign K (.inl (D.kind rfl)) (EJ.bq (bi:=⟨[("records",.lst []),("place",.int 0),("text",.str x)],ph,fs⟩) (EJ.top G K 15 rfl (D.kind rfl)) Ok At (am.cons (EJ.loc rfl (D.kind rfl) K) (am.cons EJ.ci am.nil)) uj (R.mono (by decide)) C.cw)) (aw.cons rfl (aw.cons rfl (aw.cons rfl .nil)))
 have N:∀e B,nw V B->cZ B e->XJ pp w B (A.mark (some (.ref e))) (callEnvC (G.fd 56) L (G.fn 56)) (dh (gl (ay (sA 56)) 1) 1) ⟨wr x p rs,ph,fs⟩ ⟨wr x p rs,ph,fs⟩ (.ret (.lst [.bool true,.lst ((c0 rs).map RR.pv)])):=λ e B Q Y=>by
  rw[D.gz];exact XJ.ret (SJ.ret (EJ.list (am.cons EJ.fu (am.cons (UZ D.hK rfl Y hz) am.nil)) (by rw[ak];show 2<=_;decide)))
 have T:SJ pp w V A (callEnvC (G.fd 56) L (G.fn 56)) (gl (ay (sA 56)) 1) ⟨[("records",.lst []),("place",.int 0),("text",.str x)],ph,fs⟩ ⟨wr x p rs,ph,fs⟩ (.ret (.lst [.bool true,.lst ((c0 rs).map RR.pv)])):=by
  obtain(⟨U,_⟩):=G.iP;exact SJ.PM C (XX.cons SI (XX.head (SX.while C W))) (fZ.glob G.T K (D.kind rfl) U) (eV.own G.iP) N
 have O:SJ pp w V A (callEnvC (G.fd 56) L (G.fn 56)) (gl (ay (sA 56)) 0) ⟨[("text",.str x)],ph,fs⟩ ⟨[("records",.lst []),("place",.int 0),("text",.str x)],ph,fs⟩ .next:=by
  rw[D.gz];have H:=D.hK (L:=L);generalize At:G.fd 56=fd at H ⊢;generalize jX:G.fn 56=f at H ⊢;refine SJ.mT (vs:=[.lst [],.int 0]) (al:=⟨[("text",.str x)],ph,fs⟩) ["records","place"] H R.handled ?_ rfl rfl (by intro y J;simp at J;rcases J with rfl|rfl<;>exact .inl rfl) rfl rfl;exact EJ.tuple (am.cons (EJ.list am.nil (by rw[ak];simp)) (am.cons EJ.ci am.nil)) (by rw[ak];simp)
 exact XJ.sw (XJ.cons O (XJ.ret T)) aw.nil
section
section
variable {x:Str}{ph:List PO}{fs:List (Addr×Data)}{L:Addr}{p:Nat}{rs:List RR}
theorem E2 (G:Top1 w V mg mb)(hx:x.length<2 ^ 24)(B:p<x.length):TJ pp w V A (callEnvC (G.fd 56) L (G.fn 56)) (dP fJ) ⟨wr x p rs,ph,fs⟩ ⟨wr x p rs,ph,fs⟩ true:=by
 have D:=G.d 56;have K:=D.mt (L:=L);have C:decide (((p:Nat):Int)<(x.length:Nat))=true:=decide_eq_true (Int.ofNat_lt.mpr B);exact C▸TJ.li (EJ.loc rfl (D.kind rfl) K) (EJ.bY (EJ.builtin G K (λ _ _=>.blt _) (D.kind rfl)) (am.cons (EJ.loc rfl (D.kind rfl) K) am.nil) (ds.len_str (ww hx rfl))) CJ.lt_int
theorem Gx (G:Top1 w V mg mb)(hx:x.length<2 ^ 24){c:Nat}(B:x.cps[p]? = some c):TJ pp w V A (callEnvC (G.fd 56) L (G.fn 56)) (EL lq) ⟨wr x p rs,ph,fs⟩ ⟨wr x p rs,ph,fs⟩ ((⟨#[c]⟩:Str) == "'"):=by
 have D:=G.d 56;have K:=D.mt (L:=L);have C:p<x.length:=(lI.mp B).1;exact TJ.li (EJ.sub (EJ.loc rfl (D.kind rfl) K) (EJ.loc rfl (D.kind rfl) K) (GJ.str (fU (ia (c7 C hx) rfl)) (ir B))) EJ.cs CJ.eq_str
theorem Gi (G:Top1 w V mg mb)(R:wn A 5)(C:Ctx A (callEnvC (G.fd 56) L (G.fn 56)) fs)(hx:x.length<2 ^ 24)(B:x.cps[p]? = some 39)(h:br pp w V 4 (G.fn 17) [.str x,.int p] [] ph ph (.ref G.bX)):
  WX pp w V A (callEnvC (G.fd 56) L (G.fn 56)) (dP fJ) (TI fJ) 0 ⟨wr x p rs,ph,fs⟩ ⟨wr x p rs,ph,fs⟩ (.ref G.bX):=by
 have D:=G.d 56;have K:=D.mt (L:=L);obtain⟨o,Ok,At⟩:=(G.d 17).fn.at_;exact .body 0 (E2 G hx (lI.mp B).1) (XX.head (SX.iff (b:=true) (Gx G hx B) (XX.head (SX.wg (RX.bq (bi:=⟨wr x p rs,ph,fs⟩) (EJ.top G K 17 rfl (D.kind rfl)) Ok At (am.cons (EJ.loc rfl (D.kind rfl) K) (am.cons (EJ.loc rfl (D.kind rfl) K) am.nil)) h (R.mono (by decide)) C.cw)))))
theorem Bz (G:Top1 w V mg mb)(R:wn A 5)(C:Ctx A (callEnvC (G.fd 56) L (G.fn 56)) fs)(hx:x.length<2 ^ 24){c:Nat}(H:x.cps[p]? = some c)(B:c≠39)(h:br pp w V 3 (G.fn 16) [.str x,.int p,.int 4] [] ph ph (.ref G.bX)):
  WX pp w V A (callEnvC (G.fd 56) L (G.fn 56)) (dP fJ) (TI fJ) 0 ⟨wr x p rs,ph,fs⟩ ⟨wr x p rs,ph,fs⟩ (.ref G.bX):=by
 have D:=G.d 56;have K:=D.mt (L:=L);obtain⟨o,Ok,At⟩:=(G.d 16).fn.at_;have e:((⟨#[c]⟩:Str) == "'")=false:=by
  rw[(beq_eq_false_iff_ne)];exact λ e=>B (by have:=congrArg Str.cps e;have:(#[c]:Array Nat) = #[39]:=this;simpa using this)
 exact .body 0 (E2 G hx (lI.mp H).1) (XX.head (SX.iff (b:=false) (e▸Gx G hx H) (XX.head (SX.wg (RX.bq (bi:=⟨wr x p rs,ph,fs⟩) (EJ.top G K 16 rfl (D.kind rfl)) Ok At (am.cons (EJ.loc rfl (D.kind rfl) K) (am.cons (EJ.loc rfl (D.kind rfl) K) (am.cons EJ.ci am.nil))) h (R.mono (by decide)) C.cw)))))
end
theorem Jj {t:Tk}{rs:List RR}:(LT rs t).length<=rs.length+1:=by
 cases t with
 |WF a b c d=>unfold LT;rw[aP];exact aJ _
 |name y=>
  unfold LT;dsimp only
  split
  .rw[aP,List.length_dropLast];simp
  .exact Nat.le_succ _
theorem t7 {x:Str}{ph:List PO}{l:List (Tk×List Nat)}{B:List Nat}(G:Top1 w V mg mb)(hx:x.length<2 ^ 24)(M:x.cps.toList=pc l++B)(H:∀p∈l,p.1.OK/\eW p.2)(U:∀p,l.head? = some p->jC p.1=true)(hz:l.length<=400)(J:iY B)
  (Y:∀A L fs,wn A 5->Ctx A (callEnvC (G.fd 56) L (G.fn 56)) fs->WX pp w V A (callEnvC (G.fd 56) L (G.fn 56)) (dP fJ) (TI fJ) 0 ⟨wr x (pc l).length (IR [] l),ph,fs⟩ ⟨wr x (pc l).length (IR [] l),ph,fs⟩ (.ref G.bX)):
  nb pp w V 6 (G.fn 56) [.str x] [] ph ph (.lst [.bool true,.lst ((c0 (IR [] l)).map RR.pv)]):=by
 have uv:iY (pc l++B):=by
  cases l with
  |nil=>exact J
  |cons q l=>
   have e:pc (q::l)++B=q.1.code++(q.2++pc l++B):=by unfold pc;rw[dz];simp
   rw[e];exact wu (H q (aN ..)).1 _
 have ft:∀(l:List (Tk×List Nat)) (D:List RR),(IR D l).length<=D.length+l.length:=by
  intro l
  induction l with
  |nil=>intro D;exact aJ _
  |cons q l N=>
   intro D;refine av (N (LT D q.1)) ?_;have:=Jj (t:=q.1) (rs:=D);rw[cN];lia
 refine Gs (p:=(pc l).length) G hx (av (ft l []) (by simp;exact ww hz rfl)) (BE (pre:=[]) (by simpa using M) uv) λ A L fs R C=>⟨l.length,?_⟩
 have T:=FW (ph:=ph) (fs:=fs) G (R.mono (by decide)) C hx J l [] [] 0 (by simpa using M) H (λ _=>U) (aJ _) (λ r O=>nomatch O) (by lia);rw[jo] at T;exact WX.turns T (Y A L fs R C)
end
theorem jU {x:Str}{pre post:List Nat}{c:Nat}(B:x.cps.toList=pre++c::post):x.cps[pre.length]? = some c:=by
 rw[show x.cps[pre.length]? = x.cps.toList[pre.length]? by simp,B,fF (aJ _),Nat.sub_self]
 rfl
theorem ku {x:Str}{l:List Nat}(B:x.cps.toList=l):x.length=l.length:=by
 show x.cps.size=_;rw[<-ed,B]
theorem FD {x:Str}{pre bl post:List Nat}(B:x.cps.toList=pre++bl++35::127::10::post)(C:∀a∈bl,On (wP a)=true):oV x pre.length:=by
 have e:UF x On pre.length=(pre++bl).length:=(tO B C (λ a G=>(show 35=a from Option.some.inj G)▸(by decide))).trans aP.symm;have U:=uf (x:=x) (S:=λ _=>false) (pre:=pre++bl++[35]) (mid:=[127]) (c:=10) (post:=post) (by rw[B];simp) (by decide) (λ _ _=>rfl);have D:(pre++bl++[35]).length=(pre++bl).length+1:=aP;rw[D] at U;refine .bad (by rw[e];exact jU B) (j:=(pre++bl).length+1) (c:=127) (k:=(pre++bl).length+1+1) ?_;rw[e];refine⟨U.sg,aJ _,Nat.lt_succ_self _,U.lt,?_,by decide,λ i C H=>absurd C (Nat.not_le.mpr H),by decide⟩;have:=jU (x:=x) (pre:=pre++bl++[35]) (c:=127) (post:=10::post) (by rw[B];simp)
 rwa [D] at this
theorem VK {x:Str}{pre sep post:List Nat}(M:eW sep)(D:x.cps.toList=pre++sep++35::127::10::post)(O:x.length<2 ^ 24):oV x pre.length:=by
 cases M with
 |blank J H=>exact FD D H
 | @note B J H=>
  have G:=ku D
  simp at G
  have e:UF x On pre.length=pre.length+[32].length:=tO (bl:=[32]) (post:=35::(B++10::35::127::10::post)) (by rw[D];simp) (λ a C=>by simp at C;subst C;decide) (λ a C=>by simp at C;subst C;decide);have dR:=jU (x:=x) (pre:=pre++[32]) (c:=35) (post:=B++10::35::127::10::post) (by rw[D];simp);have U:=uf (x:=x) (S:=ct) (pre:=pre++[32,35]) (mid:=B) (c:=10) (post:=35::127::10::post) (by rw[D];simp) J H;have N:(pre++([32,35]:List Nat)).length=pre.length+1+1:=by simp
  rw[N] at U;have L:=FD (x:=x) (pre:=pre++[32,35]++B) (bl:=[10]) (post:=post) (by rw[D];simp) (λ a C=>by simp at C;subst C;decide);refine .go (q:=pre.length+1+1+B.length) ?_ (by lia) (by lia) ?_
  .rw[e];rw[aP] at dR;exact .hash dR U
  .have zt:(pre++([32,35]:List Nat)++B).length=pre.length+1+1+B.length:=by simp;lia
   rw[zt] at L;exact L
section
theorem X9:∀(l:List (Tk×List Nat)) {rs:List RR}{n:Nat},rs.length<=n->(∀r∈rs,r.kt.length<=n)->(IR rs l).length<=n+l.length/\∀r∈IR rs l,r.kt.length<=n+l.length:=by
 intro D
 induction D with
 |nil=>
  intro _ _ B C;exact⟨B,C⟩
 |cons q l G=>
  intro rs n B C;obtain⟨a,b⟩:x02:=HB (t:=q.1) B C;have:=G a b;rw[cN,show n+(l.length+1)=n+1+l.length by exact(Nat.succ_add ..).symm];exact this
section
variable {x:Str}{ph:List PO}{l:List (Tk×List Nat)}(G:Top1 w V mg mb)(hT:fc ph G)(hx:x.length<2 ^ 24)(hok:∀p∈l,p.1.OK/\eW p.2)(hf:∀p,l.head? = some p->jC p.1=true)(hz:l.length<=400)
include hT hx hok hf hz
theorem QK {a b c:Nat}{post:List Nat}(B:x.cps.toList=pc l++a::b::c::103::post)(H:On (wP a)=false/\a≠35)(D:a≠39):
  nb pp w V 6 (G.fn 56) [.str x] [] ph ph (.lst [.bool true,.lst ((c0 (IR [] l)).map RR.pv)]):=by
 refine t7 G hx B hok hf hz (λ d J=>(show a=d from Option.some.inj J)▸H) λ A L M R C=>Bz G R C hx (jU B) D (RF G hT (w1 (mid:=[a,b,c,103]) (post:=post) (by rw[B];simp)) ?_ (by decide) hx)
 have:=ku B
 simp at this;lia
theorem Md {c d:Nat}{post:List Nat}(D:x.cps.toList=pc l++100::56::c::d::post)(J:c∈XL)(H:d∈XL):
  nb pp w V 6 (G.fn 56) [.str x] [] ph ph (.lst [.bool true,.lst ((c0 (IR [] l)).map RR.pv)]):=by
 have B:=ku D
 simp at B
 have M:=(ie.of J).small;have N:=(ie.of H).small;have e:c6 100 56 c d=(13 * 16+8) * 256+bO c * 16+bO d:=by
  unfold c6;rw[show bO 100=13 from rfl,show bO 56=8 from rfl];lia
 exact t7 G hx D hok hf hz (λ z hz=>(show 100=z from Option.some.inj hz)▸(by decide)) λ A L O R C=>Bz G R C hx (jU D) (by decide) (R5 G hT ⟨w1 (mid:=[100,56,c,d]) (post:=post) (by rw[D];simp),by lia,by decide,by decide,J,H⟩ (by rw[e];lia) (by rw[e];lia) hx)
theorem Tz {y post:List Nat}(B:x.cps.toList=pc l++39::1::(y++39::post))(M:39∉y):
  nb pp w V 6 (G.fn 56) [.str x] [] ph ph (.lst [.bool true,.lst ((c0 (IR [] l)).map RR.pv)]):=by
 have U:=uf (x:=x) (S:=λ _=>false) (pre:=pc l++[39]) (mid:=1::y) (c:=39) (post:=post) (by rw[B];simp) (by simp[M]) (λ _ _=>rfl);have g:=jU (x:=x) (pre:=pc l++[39]) (c:=1) (post:=y++39::post) (by rw[B];simp);have H:(pc l++[39]).length=(pc l).length+1:=by simp
 rw[H] at U g;exact t7 G hx B hok hf hz (λ z hz=>(show 39=z from Option.some.inj hz)▸(by decide)) λ A L N R C=>Gi G R C hx (jU B) (Gv G (Fc G hT G.oj G.og ⟨U.sg,aJ _,by rw[cN];exact Nat.lt_add_of_pos_right (Nat.succ_pos _),U.lt,g,by decide,λ i J D=>absurd J (Nat.not_le.mpr D),by decide⟩ hx))
theorem U6 {c:Nat}(D:x.cps.toList=pc l++[39,c])(H:c≠39):
  nb pp w V 6 (G.fn 56) [.str x] [] ph ph (.lst [.bool true,.lst ((c0 (IR [] l)).map RR.pv)]):=by
 have B:=ku D
 simp at B
 have g:=jU (x:=x) (pre:=pc l++[39]) (c:=c) (post:=[]) (by rw[D];simp);have M:(pc l++[39]).length=(pc l).length+1:=by simp
 rw[M] at g;have n5:cL x ⟨#[39]⟩ ((pc l).length+1) x.length 1=[]:=by
  rw[StrLaws.occ_eq,(HH)];intro i J q;have O:(pc l).length+1<=i:=(List.mem_range'_1.mp J).1;have T:i+1<=x.length:=q.1;obtain rfl:i=(pc l).length+1:=by lia
  have:=q.2;rw[B0,g,beq_iff_eq] at this;exact H (Option.some.inj this)
 exact t7 G hx D hok hf hz (λ z hz=>(show 39=z from Option.some.inj hz)▸(by decide)) λ A L N R C=>Gi G R C hx (jU D) (Gv G (Vr G hT n5 (by lia) hx (FG (by decide))))
theorem PL {a b c:Nat}(D:x.cps.toList=pc l++[a,b,c])(J:On (wP a)=false/\a≠35)(H:a≠39):
  nb pp w V 6 (G.fn 56) [.str x] [] ph ph (.lst [.bool true,.lst ((c0 (IR [] l)).map RR.pv)]):=by
 have B:=ku D
 simp at B
 exact t7 G hx D hok hf hz (λ d M=>(show a=d from Option.some.inj M)▸J) λ A L N R C=>Bz G R C hx (jU D) H (Xu G hT (by lia) (by lia) hx)
theorem Pr {t:Tk}{sep post:List Nat}(Y:x.cps.toList=pc l++t.code++sep++35::127::10::post)(U:t.OK)(I:eW sep)(wJ:l=[]->jC t=true):
  nb pp w V 6 (G.fn 56) [.str x] [] ph ph (.lst [.bool true,.lst ((c0 (IR [] (l++[(t,sep)]))).map RR.pv)]):=by
 have wq:x.cps.toList=pc l++(t.code++(sep++35::127::10::post)):=by rw[Y];simp
 obtain⟨c,E⟩:x02:=X9 l (rs:=[]) (n:=0) (aJ _) (λ r H=>nomatch H);obtain⟨o,Ok,At⟩:=(G.d 15).fn.at_;have rl:IR [] (l++[(t,sep)])=LT (IR [] l) t:=by unfold IR;rw[List.foldl_append];rfl
 have O:=wu U (sep++35::127::10::post);have uv:iY (pc l++(t.code++(sep++35::127::10::post))):=by
  cases l with
  |nil=>exact O
  |cons q l=>
   have e:pc (q::l)++(t.code++(sep++35::127::10::post))=q.1.code++(q.2++pc l++(t.code++(sep++35::127::10::post))):=by unfold pc;rw[dz];simp
   rw[e];exact wu (hok q (aN ..)).1 _
 have UU:IR [] l=[]->jC t=true:=λ e=>by
  refine wJ ?_
  cases l with
  |nil=>rfl
  |cons q l=>
   refine absurd e ?_;have N:∀(l:List (Tk×List Nat)) (B:List RR),B≠[]->IR B l≠[]:=by
    intro l
    induction l with
    |nil=>exact λ B h=>h
    |cons q l Q=>exact λ B h=>Q _ (zK λ e=>absurd e h)
   exact N l _ (zK λ _=>hf q rfl)
 rw[rl];refine Gs (p:=(pc l++t.code).length) G hx (av Jj (by lia)) (BE (pre:=[]) (by simpa using wq) uv) λ A L J R C=>⟨l.length,?_⟩
 have D:=G.d 56;have K:=D.mt (L:=L);have T:=FW (ph:=ph) (fs:=J) G (R.mono (by decide)) C hx O l [] [] 0 (by simpa using wq) hok (λ _=>hf) (aJ _) (λ r H=>nomatch H) (by lia);rw[jo] at T;obtain⟨yy,Z⟩:x02:=ES (ph:=ph) (fs:=J) (rs:=IR [] l) (pre:=pc l) (t:=t) (post:=sep++35::127::10::post) G (R.mono (by decide)) C hx (by rw[wq];simp) U UU (by lia) (λ r H=>av (E r H) (by lia));have M:=ku wq;simp only[aP] at M;refine WX.turns T (.body 0 yy (XX.cons Z (XX.head (SX.assign (RX.bq (bi:=⟨wr x (pc l++t.code).length (LT (IR [] l) t),ph,J⟩) (EJ.top G K 15 rfl (D.kind rfl)) Ok At (am.cons (EJ.loc rfl (D.kind rfl) K) (am.cons (EJ.loc rfl (D.kind rfl) K) am.nil)) (P1 G hT (VK I Y hx) hx ?_) R C.cw)))));rw[aP];lia
end
end
theorem AN {α:Type}{l:List α}{j:Nat}:fA l none (some (j:Int))=l.take j:=by
 show(l.drop 0).take (clipAt l.length (j:Int) - 0)=_;rw[BV,Nat.sub_zero,List.drop_zero,(List.take_eq_take_iff),Nat.min_assoc,Nat.min_self]
theorem D8 {α:Type}{l:List α}{j:Nat}(h:j<=l.length):fA l (some (j:Int)) none=l.drop j:=by
 show(l.drop (clipAt l.length (j:Int))).take (l.length - clipAt l.length (j:Int))=_;rw[BV,nu h];exact ve (by rw[List.length_drop];exact aJ _)
noncomputable def bS (t:Str)(mark:Nat):Nat->Str
 |0=>Op t 0 3 ++ "g" ++ Op t 4 t.length
 |1=>"d8" ++ Op t 2 t.length
 |2=>Op t 0 (mark+1) ++ "\x01" ++ Op t (mark+1) t.length
 |3=>Op t 0 (mark+2)
 |4=>Op t 0 3
 |_=>t ++ "#\x7f\n"
noncomputable def i7 (rest:List Str)(way:Nat):List Str:=if way=3\/way=4 then [] else rest
noncomputable def iw (texts:List Str)(place:Nat)(t:Str)(mark way:Nat):Str:=d9 ⟨#[]⟩ (texts.take place++[bS t mark way]++i7 (texts.drop (place+1)) way)
noncomputable def dF (texts:List Str)(place:Nat)(way:Int)(name t:Str)(rest:List Str)(mark:Nat):List (Str×PV):=
 [("mark",.int mark),("text",.str t),("rest",.lst (rest.map .str)),("texts",.lst (texts.map .str)),("place",.int place),("way",.int way),("name",.str name)]
noncomputable def mK:Nat->aC
 |0=>gl (ay (sA 55)) 2
 |i+1=>gl (dh (mK i) 1) 0
section
section
variable {fd:aU}{L f:Addr}{ph:List PO}{fs:List (Addr×Data)}{texts:List Str}{place:Nat}{name t:Str}{rest:List Str}{mark:Nat}(K:ut (callEnvC (gt fd (sA 55)) L f))(hh:A.handled=none)(ht:t.length<=1000)(hm:mark+2<=t.length)(h4:4<=t.length)
include K hh ht hm h4
theorem XN:XJ pp w V A (callEnvC (gt fd (sA 55)) L f) (dh (mK 0) 0) ⟨dF texts place 0 name t rest mark,ph,fs⟩ ⟨dF texts place 0 name (bS t mark 0) rest mark,ph,fs⟩ .next:=by
 have C:t.length<=aH:=by rw[ak];lia
 have D:min 3 t.length=3:=by lia
 have e4:min 4 t.length=4:=by lia
 have H:=m7 (x:=t) (a:=0) (b:=3);have G:=m7 (x:=t) (a:=4) (b:=t.length);have B:("g" : Str).length=1:=rfl;refine XJ.sw (XJ.cons (SJ.assign (v:=.str (bS t mark 0)) K (.inl rfl) (EJ.bin (EJ.bin (EJ.m8 none (some 3) (EJ.loc rfl rfl K) PJ.none (PJ.some EJ.ci) C (Nat.zero_min _) D (eJ _)) EJ.cs (BJ.add_str ?_)) (EJ.m8 (b:=t.length) (some 4) none (EJ.loc rfl rfl K) (PJ.some EJ.ci) PJ.none C e4 (Nat.min_self _) h4) (BJ.add_str ?_))) XJ.nil) (aw.cons rfl (aw.cons rfl (aw.cons rfl (aw.cons rfl (aw.cons rfl (aw.cons rfl (aw.cons rfl .nil)))))))
 .rw[ak,B];lia
 .rw[ak,bQ,B];lia
theorem Ma:XJ pp w V A (callEnvC (gt fd (sA 55)) L f) (dh (mK 1) 0) ⟨dF texts place 1 name t rest mark,ph,fs⟩ ⟨dF texts place 1 name (bS t mark 1) rest mark,ph,fs⟩ .next:=by
 have C:t.length<=aH:=by rw[ak];lia
 have e2:min 2 t.length=2:=by lia
 have D:=m7 (x:=t) (a:=2) (b:=t.length);have B:("d8" : Str).length=2:=rfl;refine XJ.sw (XJ.cons (SJ.assign (v:=.str (bS t mark 1)) K (.inl rfl) (EJ.bin EJ.cs (EJ.m8 (b:=t.length) (some 2) none (EJ.loc rfl rfl K) (PJ.some EJ.ci) PJ.none C e2 (Nat.min_self _) (by lia)) (BJ.add_str ?_))) XJ.nil) (aw.cons rfl (aw.cons rfl (aw.cons rfl (aw.cons rfl (aw.cons rfl (aw.cons rfl (aw.cons rfl .nil)))))));rw[ak,B];lia
theorem VY:XJ pp w V A (callEnvC (gt fd (sA 55)) L f) (dh (mK 2) 0) ⟨dF texts place 2 name t rest mark,ph,fs⟩ ⟨dF texts place 2 name (bS t mark 2) rest mark,ph,fs⟩ .next:=by
 have C:t.length<=aH:=by rw[ak];lia
 have e2:min (mark+1) t.length=mark+1:=by lia
 have G:=m7 (x:=t) (a:=0) (b:=mark+1);have D:=m7 (x:=t) (a:=mark+1) (b:=t.length);have B:("\x01" : Str).length=1:=rfl;refine XJ.sw (XJ.cons (SJ.assign (v:=.str (bS t mark 2)) K (.inl rfl) (EJ.bin (EJ.bin (EJ.m8 none (some (mark+1)) (EJ.loc rfl rfl K) PJ.none (PJ.some (EJ.bin (a:=.int mark) (b:=.int 1) (EJ.loc rfl rfl K) EJ.ci (BJ.add_int (a:=mark) (b:=1)))) C (Nat.zero_min _) e2 (eJ _)) EJ.cs (BJ.add_str ?_)) (EJ.m8 (b:=t.length) (some (mark+1)) none (EJ.loc rfl rfl K) (PJ.some (EJ.bin (a:=.int mark) (b:=.int 1) (EJ.loc rfl rfl K) EJ.ci (BJ.add_int (a:=mark) (b:=1)))) PJ.none C e2 (Nat.min_self _) (by lia)) (BJ.add_str ?_))) XJ.nil) (aw.cons rfl (aw.cons rfl (aw.cons rfl (aw.cons rfl (aw.cons rfl (aw.cons rfl (aw.cons rfl .nil)))))))
 .rw[ak,B];lia
 .rw[ak,bQ,B];lia
theorem FH {y:Str}{i:Nat}(hi:i=3/\y=bS t mark 3\/i=4/\y=bS t mark 4):XJ pp w V A (callEnvC (gt fd (sA 55)) L f) (dh (mK 3) 0) ⟨dF texts place i name t rest mark,ph,fs⟩ ⟨dF texts place i name y [] mark,ph,fs⟩ .next:=by
 have C:t.length<=aH:=by rw[ak];lia
 have D:min 3 t.length=3:=by lia
 have e2:min (mark+2) t.length=mark+2:=by lia
 have B:EJ pp w V A (callEnvC (gt fd (sA 55)) L f) (sub (KT (gl (dh (mK 3) 0) 0) 0) 0) ⟨dF texts place i name t rest mark,ph,fs⟩ ⟨dF texts place i name t rest mark,ph,fs⟩ (.str y):=by
  rcases hi with⟨rfl,rfl⟩|⟨rfl,rfl⟩
  .exact EJ.fq (b:=true) (TJ.li (EJ.loc rfl rfl K) EJ.ci CJ.eq_int) (EJ.m8 none (some (mark+2)) (EJ.loc rfl rfl K) PJ.none (PJ.some (EJ.bin (EJ.loc rfl rfl K) EJ.ci BJ.add_int)) C (Nat.zero_min _) e2 (eJ _))
  .exact EJ.fq (b:=false) (TJ.li (EJ.loc rfl rfl K) EJ.ci CJ.eq_int) (EJ.m8 none (some 3) (EJ.loc rfl rfl K) PJ.none (PJ.some EJ.ci) C (Nat.zero_min _) D (eJ _))
 refine XJ.sw (XJ.cons (SJ.mT (vs:=[.str y,.lst []]) (al:=⟨dF texts place i name t rest mark,ph,fs⟩) ["text","rest"] K hh ?_ rfl rfl (by intro y B;simp at B;rcases B with rfl|rfl<;>exact .inl rfl) rfl rfl) XJ.nil) (aw.cons rfl (aw.cons rfl (aw.cons rfl (aw.cons rfl (aw.cons rfl (aw.cons rfl (aw.cons rfl .nil)))))));exact EJ.tuple (am.cons B (am.cons (EJ.list am.nil (by rw[ak];simp)) am.nil)) (by rw[ak];simp)
theorem QH:XJ pp w V A (callEnvC (gt fd (sA 55)) L f) (dh (mK 3) 1) ⟨dF texts place 5 name t rest mark,ph,fs⟩ ⟨dF texts place 5 name (bS t mark 5) rest mark,ph,fs⟩ .next:=by
 have B:("#\x7f\n" : Str).length=3:=rfl;refine XJ.sw (XJ.cons (SJ.assign (v:=.str (bS t mark 5)) K (.inl rfl) (EJ.bin (EJ.loc rfl rfl K) EJ.cs (BJ.add_str ?_))) XJ.nil) (aw.cons rfl (aw.cons rfl (aw.cons rfl (aw.cons rfl (aw.cons rfl (aw.cons rfl (aw.cons rfl .nil)))))));rw[ak,B];lia
theorem U1 {way:Nat}(B:way<6):SJ pp w V A (callEnvC (gt fd (sA 55)) L f) (mK 0) ⟨dF texts place way name t rest mark,ph,fs⟩ ⟨dF texts place way name (bS t mark way) (i7 rest way) mark,ph,fs⟩ .next:=by
 have:=(by decide:∀i,i<6->i=0\/i=1\/i=2\/i=3\/i=4\/i=5) way B
 rcases this with rfl|rfl|rfl|rfl|rfl|rfl
 .exact SJ.iff (b:=true) (TJ.li (EJ.loc rfl rfl K) EJ.ci CJ.eq_int) (XN K hh ht hm h4)
 .exact SJ.iff (b:=false) (TJ.li (EJ.loc rfl rfl K) EJ.ci CJ.eq_int) (XJ.cons (SJ.iff (b:=true) (TJ.li (EJ.loc rfl rfl K) EJ.ci CJ.eq_int) (Ma K hh ht hm h4)) XJ.nil)
 .exact SJ.iff (b:=false) (TJ.li (EJ.loc rfl rfl K) EJ.ci CJ.eq_int) (XJ.cons (SJ.iff (b:=false) (TJ.li (EJ.loc rfl rfl K) EJ.ci CJ.eq_int) (XJ.cons (SJ.iff (b:=true) (TJ.li (EJ.loc rfl rfl K) EJ.ci CJ.eq_int) (VY K hh ht hm h4)) XJ.nil)) XJ.nil)
 .exact SJ.iff (b:=false) (TJ.li (EJ.loc rfl rfl K) EJ.ci CJ.eq_int) (XJ.cons (SJ.iff (b:=false) (TJ.li (EJ.loc rfl rfl K) EJ.ci CJ.eq_int) (XJ.cons (SJ.iff (b:=false) (TJ.li (EJ.loc rfl rfl K) EJ.ci CJ.eq_int) (XJ.cons (SJ.iff (b:=true) (TJ.li (EJ.loc rfl rfl K) EJ.ci CJ.lt_int) (FH (i:=3) K hh ht hm h4 (.inl ⟨rfl,rfl⟩))) XJ.nil)) XJ.nil)) XJ.nil)
 .exact SJ.iff (b:=false) (TJ.li (EJ.loc rfl rfl K) EJ.ci CJ.eq_int) (XJ.cons (SJ.iff (b:=false) (TJ.li (EJ.loc rfl rfl K) EJ.ci CJ.eq_int) (XJ.cons (SJ.iff (b:=false) (TJ.li (EJ.loc rfl rfl K) EJ.ci CJ.eq_int) (XJ.cons (SJ.iff (b:=true) (TJ.li (EJ.loc rfl rfl K) EJ.ci CJ.lt_int) (FH (i:=4) K hh ht hm h4 (.inr ⟨rfl,rfl⟩))) XJ.nil)) XJ.nil)) XJ.nil)
 .exact SJ.iff (b:=false) (TJ.li (EJ.loc rfl rfl K) EJ.ci CJ.eq_int) (XJ.cons (SJ.iff (b:=false) (TJ.li (EJ.loc rfl rfl K) EJ.ci CJ.eq_int) (XJ.cons (SJ.iff (b:=false) (TJ.li (EJ.loc rfl rfl K) EJ.ci CJ.eq_int) (XJ.cons (SJ.iff (b:=false) (TJ.li (EJ.loc rfl rfl K) EJ.ci CJ.lt_int) (QH K hh ht hm h4)) XJ.nil)) XJ.nil)) XJ.nil)
end
end
theorem Gp {t:Str}{mark:Nat}(way:Nat):(bS t mark way).length<=2 * t.length+3:=by
 have c:=λ a b=>m7 (x:=t) (a:=a) (b:=b)
 have B:("g" : Str).length=1/\("d8" : Str).length=2/\("\x01" : Str).length=1/\("#\x7f\n" : Str).length=3:=by decide
 obtain⟨B,D,l3,C⟩:x04:=B
 rcases way with _|_|_|_|_|n
 .show(_++_++_:Str).length<=_;rw[bQ,bQ];have:=c 0 3;have:=c 4 t.length;lia
 .show(_++_:Str).length<=_;rw[bQ];have:=c 2 t.length;lia
 .show(_++_++_:Str).length<=_;rw[bQ,bQ];have:=c 0 (mark+1);have:=c (mark+1) t.length;lia
 .exact av (c 0 (mark+2)) (by lia)
 .exact av (c 0 3) (by lia)
 .show(_++_:Str).length<=_;rw[bQ];lia
theorem IB {m:Nat}:∀{l:List Str},(∀y∈l,y.length<=m)->(l.map (·.length)).sum<=l.length * m:=by
 intro B
 induction B with
 |nil=>
  intro _;exact eJ _
 |cons y l C=>
  intro h;have H:=h y (.head _);have G:=C λ z D=>h z (.tail _ D)
  rw[aL,lZ,cN,Nat.succ_mul];lia
theorem EJ.D0 {id}(c:EJ pg w V A ew o st al v)(Y:on pg w V A ew v al name id)(J:am pg w V A ew args al bi vs)(N:ds pg w V A ew (.builtin id) (v::vs) bi lv r)
  (Z:∀m,attributeBase o name ew m=m:=by intro _;rfl) (M:(apos.endLine==pos.line)=true:=by rfl) (O:args.length<30:=by decide):
  EJ pg w V A ew (.Call (.Attribute o name apos) args [] pos) st lv r:=λ I ρ s Q E k q=>by
 have G:=jV (pos:=pos) (js J).1;have O5:methodCallForm (args.length+([]:List Keyword).length) (backTo pos (starEach args ew)) (backToKw pos (keywordEach [] ew))=true:=by
  unfold methodCallForm;rw[fG,fG];refine⟨⟨?_,rfl⟩,decide_eq_true (show args.length+0+0<30 from O)⟩;rw[List.all_eq_not_any_not]
  simpa using G
 rw[arm_eval_Call,Z];refine aa (c _ _ _ _ _ k λ p d z u T R D f H=>aa (a9 ?_));unfold methodCall;rw[O5];refine aa (aQ ?_);unfold calleeOf methodCallPos;rw[if_pos rfl,M];refine Y _ _ _ _ _ _ _ D H ?_;refine aa (ah ?_);refine callWith_builtin G (fV J D λ j L X y C B g U KM=>?_);exact N _ _ _ _ _ _ g (.cons (H.mono C B) KM) (q.at (T.trans C) (R.trans B) (U.trans f))
theorem re.p4 {fd:aU}(h:∀u v t p,bindArgs fd ⟨[u,v,t,p],[]⟩=aq [(x,u),(y,v),(z,t),(r,p)]):re pg w V fd [a,b,c,d] [] [(x,a),(y,b),(z,c),(r,d)]:=λ A J st I L s Q E M H R k jp bU q=>by
 obtain⟨u,v,t,p,rfl,D,G,B,C⟩:=zJ jp;obtain rfl:=bU.nil;rw[h];exact ah (q _ _ _ _ (.refl _) (.refl _) k rfl ⟨rfl,.cons D (.cons G (.cons B (.cons C .nil)))⟩)
theorem Un {texts:List Str}{place way mark:Nat}{name t:Str}{QE}(G:Top1 w V mg mb)(T:texts[place]? = some t)(tJ:cL t ("'" ++ name) 0 t.length 1=mark::QE)(d:mark+2<=t.length)(Z:4<=t.length)
  (Np:texts.length<=10) (J:∀y∈texts,y.length<=1000) (k:name.length<=10) (E:way<6):
  nb pp w V 1 (G.fn 55) [.lst (texts.map .str),.int place,.int way,.str name] [] ph ph (.str (iw texts place t mark way)):=by
 have D:=G.d 55;have mq:place<texts.length:=(cb.mp T).1;have c:t.length<=1000:=J t (eX T);refine nb.of_body (loc:=[("texts",.lst (texts.map .str)),("place",.int place),("way",.int way),("name",.str name)]) (fl:=.ret (.str (iw texts place t mark way))) (ln:=[]) G.T D.fn (re.p4 λ u v t p=>D.binds λ _=>rfl) (D.locs ["texts","place","way","name"] (by decide) rfl) ?_;intro A L M R C;rw[D.gz];have K:=D.hK (L:=L);generalize At:G.fd 55=fd at K ⊢;generalize jX:G.fn 55=f at K ⊢;have IF:(texts.map PV.str).length<=aH:=by rw[aE,ak];lia
 have Ss:(texts.map PV.str)[(place:Int).toNat]? = some (.str t):=by
  rw[gh,cM,T];rfl
 have I:SJ pp w V A (callEnvC (gt fd (sA 55)) L f) (gl (ay (sA 55)) 0) ⟨[("texts",.lst (texts.map .str)),("place",.int place),("way",.int way),("name",.str name)],ph,M⟩ ⟨[("text",.str t),("rest",.lst ((texts.drop (place+1)).map .str)),("texts",.lst (texts.map .str)),("place",.int place),("way",.int way),("name",.str name)],ph,M⟩ .next:=by
  have N:=EJ.rk (pg:=pp) (w:=w) (V:=V) (A:=A) (ew:=callEnvC (gt fd (sA 55)) L f) (st:=⟨[("texts",.lst (texts.map .str)),("place",.int place),("way",.int way),("name",.str name)],ph,M⟩) (value:=sub (sub (KT (gl (ay (sA 55)) 0) 0) 1) 0) (lower:=some (sub (sub (sub (KT (gl (ay (sA 55)) 0) 0) 1) 1) 0)) (upper:=none) (hi:=none) (lo:=some ((place+1:Nat):Int)) (xs:=texts.map .str) (p:=(sub (sub (KT (gl (ay (sA 55)) 0) 0) 1) 1).pos) (pos:=(sub (KT (gl (ay (sA 55)) 0) 0) 1).pos)
   (EJ.loc (x:="texts") rfl rfl K) (PJ.some (EJ.bin (a:=.int place) (b:=.int 1) (EJ.loc (x:="place") rfl rfl K) EJ.ci (BJ.add_int (a:=place) (b:=1)))) PJ.none IF
  rw[D8 (by rw[aE];lia),<-List.map_drop] at N;refine SJ.mT (vs:=[.str t,.lst ((texts.drop (place+1)).map .str)]) (al:=⟨[("texts",.lst (texts.map .str)),("place",.int place),("way",.int way),("name",.str name)],ph,M⟩) ["text","rest"] K R.handled ?_ rfl rfl (by intro y B;simp at B;rcases B with rfl|rfl<;>exact .inl rfl) rfl rfl;exact EJ.tuple (am.cons (EJ.sub (EJ.loc rfl rfl K) (EJ.loc rfl rfl K) (GJ.lst (by lia) (by lia) Ss)) (am.cons N am.nil)) (by rw[ak];simp)
 have Y:("'" : Str).length=1:=rfl;have j:SJ pp w V A (callEnvC (gt fd (sA 55)) L f) (gl (ay (sA 55)) 1) ⟨[("text",.str t),("rest",.lst ((texts.drop (place+1)).map .str)),("texts",.lst (texts.map .str)),("place",.int place),("way",.int way),("name",.str name)],ph,M⟩ ⟨dF texts place way name t (texts.drop (place+1)) mark,ph,M⟩ .next:=
  SJ.assign K (.inl rfl) (EJ.D0 (EJ.loc rfl rfl K) on.index (am.cons (EJ.bin EJ.cs (EJ.loc rfl rfl K) (BJ.add_str (by rw[Y,ak];lia))) am.nil) (ds.Mw tJ))
 have O:=U1 (w:=w) (V:=V) (texts:=texts) (place:=place) (name:=name) (rest:=texts.drop (place+1)) (ph:=ph) (fs:=M) K R.handled c d Z E;generalize H:i7 (texts.drop (place+1)) way=rest at O;have ft:rest.length<=10:=by
  rw[<-H];unfold i7;split
  .exact eJ _
  .rw[List.length_drop];lia
 have Uu:∀y∈rest,y.length<=1000:=by
  intro y B;rw[<-H] at B;unfold i7 at B
  split at B
  .cases B
  .exact J y (List.mem_of_mem_drop B)
 have pP:=Gp (t:=t) (mark:=mark) way;generalize Q6:bS t mark way=sx at O pP;have Q:iw texts place t mark way=d9 ⟨#[]⟩ (texts.take place++[sx]++rest):=by unfold iw;rw[Q6,H]
 have A8:=IB (m:=2003) (l:=texts.take place++[sx]++rest) λ y B=>by
  rcases be.mp B with B|B
  .rcases be.mp B with B|B
   .exact av (J y (List.mem_of_mem_take B)) (by decide)
   .obtain rfl:=aO.mp B;lia
  .exact av (Uu y B) (by decide)
 have U:(texts.take place++[sx]++rest).length<=21:=by simp;lia
 have ac9:((texts.take place++[sx]++rest).map (·.length)).sum<=21 * 2003:=av A8 (lV _ U);have N:=EJ.rk (pg:=pp) (w:=w) (V:=V) (A:=A) (ew:=callEnvC (gt fd (sA 55)) L f) (st:=⟨dF texts place way name sx rest mark,ph,M⟩) (value:=sub (sub (sub (sub (KT (gl (ay (sA 55)) 3) 0) 1) 0) 0) 0) (lower:=none) (upper:=some (sub (sub (sub (sub (sub (KT (gl (ay (sA 55)) 3) 0) 1) 0) 0) 1) 1)) (lo:=none) (hi:=some (place:Int)) (xs:=texts.map .str) (p:=(sub (sub (sub (sub (KT (gl (ay (sA 55)) 3) 0) 1) 0) 0) 1).pos) (pos:=(sub (sub (sub (KT (gl (ay (sA 55)) 3) 0) 1) 0) 0).pos)
   (EJ.loc (x:="texts") rfl rfl K) PJ.none (PJ.some (EJ.loc (x:="place") rfl rfl K)) IF
 rw[AN,<-List.map_take] at N;have e:(texts.take place++[sx]++rest).map PV.str=((texts.take place).map .str++[.str sx])++rest.map .str:=by rw[aY,aY];rfl
 have g:SJ pp w V A (callEnvC (gt fd (sA 55)) L f) (gl (ay (sA 55)) 3) ⟨dF texts place way name sx rest mark,ph,M⟩ ⟨dF texts place way name sx rest mark,ph,M⟩ (.ret (.str (iw texts place t mark way))):=by
  rw[Q];refine SJ.ret (EJ.D0 (vs:=[.lst ((texts.take place++[sx]++rest).map .str)]) (v:=.str ⟨#[]⟩) EJ.cs on.join (am.cons (e▸EJ.bin (a:=.lst ((texts.take place).map .str++[.str sx])) (b:=.lst (rest.map .str)) (EJ.bin N (EJ.list (am.cons (EJ.loc rfl rfl K) am.nil) (by rw[ak];simp)) (BJ.eg (by rw[ak];simp;lia))) (EJ.loc rfl rfl K) (BJ.eg (by rw[ak];simp;lia))) am.nil) (ds.Ho (sep:=⟨#[]⟩) (xs:=texts.take place++[sx]++rest) rfl ?_ ?_))
  .rw[H9];unfold rE;rw[ak,(decide_eq_false_iff_not)];lia
  .rw[BY,ak];lia
 exact XJ.sw (XJ.cons I (XJ.cons j (XJ.cons O (XJ.ret g)))) aw.nil
theorem OK.forget {bn}(k:OK pg w V ew st I ρ s)(B:OK pg w V ew {st with ph:=bn} I' ρ' s')(b:pu ρ ρ')(O:∀i,i<st.ph.length->bn[i]? = st.ph[i]?):OK pg w V ew st I' ρ s':=by
 have Z:=k.inv.len;have to:iX ρ.length ρ' ρ:=λ n r D e=>by
  have e2:=dc D;rw[e2,<-b _ _ e2,e]
 have H:∀{x v},ce I' ρ' x v->PV.lt ρ.length x->ce I' ρ x v:=λ h l=>(ce.g8 (nw.refl I').seq to).1 h l
 have C:∀{a},a∈ρ.flatten->a∈ρ'.flatten:=λ{a} h=>by
  apply bd;intro G;obtain⟨L,g,Q⟩:=List.mem_flatten.mp h;obtain(⟨n,D,e⟩):=List.getElem_of_mem g;apply G;exact List.mem_flatten.mpr ⟨L,eX (b n L (e▸dc D)),Q⟩
 refine⟨⟨B.inv.lw,Z,λ n o L e1 e2=>?_,k.inv.wv,λ a f=>B.inv.out a (C f)⟩,⟨?_,λ x c e=>?_,⟨B.fr.bt.1,λ q=>B.fr.bt.2 (C q)⟩,λ x c e=>?_,k.fr.apart⟩,B.gens,B.top,λ p O=>?_⟩
 .have D:n<st.ph.length:=(cb.mp e1).1;exact(B.inv.obj n o L ((O n D).trans e1) (b _ _ e2)).map (nw.refl I').seq to (λ _ _ _ e=>e) (k.inv.TD o (eX e1))
 .apply bd;intro G;obtain⟨y,_,uC⟩:=k.fr.ns;obtain⟨m,D,d⟩:=B.fr.ns;apply G;refine⟨m,D,λ x z e J=>?_⟩;apply bd;intro G;obtain⟨u,A,R⟩:=d x z e J;obtain⟨_,_,oq⟩:=uC x z e J;apply G;exact⟨u,A,H R oq.lt⟩
 .apply bd;intro G;obtain⟨u,E,R⟩:=B.fr.cell x c e;obtain⟨_,_,oq⟩:=k.fr.cell x c e;apply G;exact⟨u,E,λ z U J=>by obtain⟨Y,ta,mS⟩:=R z U J;exact by obtain⟨_,_,vQ⟩:=oq z U J;exact ⟨Y,ta,H mS vQ.lt⟩⟩
 .obtain⟨M,N,T⟩:x03:=B.fr.cout x c e;exact⟨M,λ z=>N (C z),T⟩
 .obtain⟨M,N,T,j⟩:x04:=B.No p O;exact⟨M,N,λ z=>T (C z),j⟩
theorem nb.forget {bn}(h:nb pg w V k f args kw ph bn r)(T:∀i,i<ph.length->bn[i]? = ph[i]?)(L:PV.lt ph.length r):nb pg w V k f args kw ph ph r:=λ A U st I H s Q E c D R C gV B jp ly q=>by
 refine h A U st I H s Q E c D R C gV B jp ly λ G N J v a b Y Z d=>?_
 subst gV;have M:=B.inv.len;refine q G H J v a (.refl _) (B.forget Y b T) Z ((ce.g8 (nw.refl G).seq λ n r O e=>?_).1 d (M▸L));have e2:=dc O;rw[e2,<-b _ _ e2,e]
theorem nb.more {bn}(h:nb pg w V k f args kw ph bn r)(D:k<=j:=by lia):nb pg w V j f args kw ph bn r:=λ A C st I G s Q E H B R=>h A C st I G s Q E H B (R.mono D)
theorem H8 {ms:aB}{ic:Scope}{vH B:Str}{L G:Addr}{Nh:aU}{o:Obj}{n:Nat}{es:List (Str×PV)}{S:Str->Str}{N:Str->Int}{g:List Str}{loc:List (Str×PV)}{NM QA Jn SV}
  (q:A.handled=none) (R:wn A 2) (U:cB V) (f:V L=some o) (E:o.data = .func Nh) (Q:∀y ph,nb pp w V 2 L [.int (N y)] [] ph ph (.str (S y)))
  (p:∀y,es.lookup y=some (.int (N y))\/es.lookup y=none/\N y=0) (m:ph[n]? = some (.dict es none)) (k:P3 ms ic [(B,G)] loc [(B,.ref n)]) (I:Uf A ms fs)
  (j:EJ pp w V A ms (.Name "group" Jn) ⟨loc,ph,fs⟩ ⟨loc,ph,fs⟩ (.lst (g.map .str))) (Y:g.length<=1000)
  (T:∀C,ut (dM ic [(B,G)] C ms)) (O:∀C,(dM ic [(B,G)] C ms).kindOf "name"=some .local) (T7:(B==("name" : Str))=false)
  (AY:∀C st pos,EJ pp w V A (dM ic [(B,G)] C ms) (.Name vH pos) st st (.obj L))
  (HT:∀C y bn xx pos,EJ pp w V A (dM ic [(B,G)] C ms) (.Name B pos) ⟨[("name",.str y),(B,.ref n)],bn,xx⟩ ⟨[("name",.str y),(B,.ref n)],bn,xx⟩ (.ref n)):
  EJ pp w V A ms (.ListComp (.Call (.Name vH p1) [.IfExp (.Compare (.Name "name" p2) [.In] [.Name B p3] p4) (.Subscript (.Name B p5) (.Name "name" p6) p7) (.Constant (.int 0) 0 p8) p9] [] NM) [⟨.Name "name" QA,.Name "group" Jn,[],0⟩] ic SV) ⟨loc,ph,fs⟩ ⟨loc,ph,fs⟩ (.lst ((g.map S).map .str)):=by
 refine EJ.listcomp (cl:=[(B,G)]) (ys:=(g.map S).map .str) (ge:=[(B,.ref n)]) (ln:=[(B,.ref n)]) q k j rc.lst ?_ fe;intro D d M;rw[bz];refine wf.all (λ _=>trivial) (by rw[ak];exact ww Y rfl) λ y r=>?_
 refine Fr.nS (T D) (.inl (O D)) (aw.cons (by rw[cK,T7,cK,beq_self_eq_true]) .nil) λ H=>?_
 .have qF:(ph++[PO.list H])[n]? = some (.dict es none):=il _ _ _ _ m;have qy:∀pos,EJ pp w V A (dM ic [(B,G)] D ms) (.Name "name" pos) ⟨[("name",.str y),(B,.ref n)],ph++[.list H],(ms.locals,d)::fs⟩ ⟨[("name",.str y),(B,.ref n)],ph++[.list H],(ms.locals,d)::fs⟩ (.str y):=λ pos=>EJ.loc rfl (O D) (T D)
  refine EJ.bq (bi:=⟨[("name",.str y),(B,.ref n)],ph++[.list H],(ms.locals,d)::fs⟩) (AY D _ _) f E (am.cons ?_ am.nil) (Q y _) R (I.inner M);have J:=TJ.li (pos:=p4) (qy p2) (HT D y _ _ p3) (CJ.in_dict (st:=⟨[("name",.str y),(B,.ref n)],ph++[.list H],(ms.locals,d)::fs⟩) (c:=y) U qF)
  rcases p y with e|⟨e,Z⟩
  .rw[e] at J;exact EJ.fq (b:=true) J (EJ.sub (HT D y _ _ _) (qy _) (GJ.dict U qF e))
  .rw[e] at J;rw[Z];exact EJ.fq (b:=false) J EJ.ci
noncomputable def uc (o:Int)(great:Bool):Tk:=if great then .WF (i8.getD (ST o 0) 0) (i8.getD (ST o 1) 0) (i8.getD (ST o 2) 0) (i8.getD (ST o 3) 0) else .WF (fm.getD (ST o 0) 0) (fm.getD (ST o 1) 0) (fm.getD (ST o 2) 0) (fm.getD (ST o 3) 0)
noncomputable def oO (o:Int)(name:Str)(kt:List Str)(great:Bool):List Tk:=uc o great::(name::kt).map .name
theorem Mj (o:Int)(name:Str)(kt:List Str)(great:Bool):(fC o name kt great).map (·.cps.toList)=(oO o name kt great).map Tk.code:=by
 unfold fC oO;generalize name::kt=l;rw[aL,aL,bz,bz]
 congr 1
 .cases great<;>rfl
 .apply pH;intro y _;show(oY y).cps.toList=_;unfold oY;rw[iz,iz]
  rfl
noncomputable def pr (x:Int)(k:Nat):List Nat:=(nP x k).cps.toList
noncomputable def hV (x:Int):Nat->List Tk->List (Tk×List Nat)
 |_,[]=>[]
 |k,t::ts=>(t,pr x k)::hV x (k+1) ts
theorem MQ (x:Int)(B:List Str):∀m,(iu x B m).cps.toList=(bj m).flatMap λ k=>(B.getD k default).cps.toList++pr x k:=by
 intro C
 induction C with
 |zero=>
  exact rfl
 |succ m D=>
  show((iu x B m++B.getD m default)++nP x m).cps.toList=_;rw[iz,iz,D,List.range_succ,List.flatMap_append]
  simp[pr]
theorem QM (x:Int)(B:List Str)(C:List Tk)(h:B.map (·.cps.toList)=C.map Tk.code):(iu x B B.length).cps.toList=pc (hV x 0 C):=by
 rw[MQ];have D:∀(C:List Tk) (B:List Str) (k:Nat),B.map (·.cps.toList)=C.map Tk.code->(bj B.length).flatMap (λ j=>(B.getD j default).cps.toList++pr x (k+j))=pc (hV x k C):=by
  intro C
  induction C with
  |nil=>
   intro B k h
   cases B with
   |nil=>rfl
   |cons _ _=>cases h
  |cons t C G=>
   intro B k h
   cases B with
   |nil=>cases h
   |cons y B=>
    rw[aL,aL] at h
    injection h with J L
    rw[cN,List.range_succ_eq_map,dz,List.flatMap_map];have:=G B (k+1) L;unfold pc at this ⊢;rw[show hV x k (t::C)=(t,pr x k)::hV x (k+1) C from rfl,dz,<-this];show(y.cps.toList++pr x (k+0))++_=(t.code++pr x k)++_;rw[J,Nat.add_zero]
    congr 1
    have H:(λ j=>((y::B).getD (j+1) default).cps.toList++pr x (k+(j+1)))=λ j=>(B.getD j default).cps.toList++pr x (k+1+j):=by
     funext j
     rw[show k+(j+1)=k+1+j by exact(Nat.succ_add ..).symm]
     rfl
    exact congrArg (λ f=>(bj B.length).flatMap f) H
 have:=D C B 0 h
 simpa using this
theorem Ib (x:Int)(k:Nat):eW (pr x k):=by
 unfold pr nP;have B:=nK (x.fdiv 524288+k) (b:=5) (by decide);have C:=lX (x.fdiv 524288+k) (b:=5) (by decide);have h:((x.fdiv 524288+k).fmod 5).toNat<5:=(Int.toNat_lt C).mpr B;generalize ((x.fdiv 524288+k).fmod 5).toNat=i at h;have:=(by decide:∀i,i<5->i=0\/i=1\/i=2\/i=3\/i=4) i h
 rcases this with rfl|rfl|rfl|rfl|rfl
 .exact .blank (bl:=[32]) (pq _ _) (by decide)
 .exact .blank (bl:=[10]) (pq _ _) (by decide)
 .exact .blank (bl:=[9,32]) (pq _ _) (by decide)
 .exact .note (mid:=[32,105,116,39,115]) (by decide) (by decide)
 .exact .blank (bl:=[10,10]) (pq _ _) (by decide)
theorem R0 (x:Int):∀(B:List Tk) (k:Nat) (rs:List RR),IR rs (hV x k B)=B.foldl LT rs:=by
 intro C
 induction C with
 |nil=>
  intro k rs;exact rfl
 |cons t B D=>
  intro k rs;show IR (LT rs t) (hV x (k+1) B)=_;rw[D];rfl
theorem T8 {o:Int}{nm:Str}:∀(ys B:List Str) (rs:List RR),(ys.map Tk.name).foldl LT (rs++[⟨o,some nm,B⟩])=rs++[⟨o,some nm,B++ys⟩]:=by
 intro C
 induction C with
 |nil=>
  intro B rs
  simp
 |cons y ys D=>
  intro B rs;rw[aL,List.foldl_cons];have:LT (rs++[⟨o,some nm,B⟩]) (.name y)=rs++[⟨o,some nm,B++[y]⟩]:=by simp[LT,RR.put]
  rw[this,D]
  simp
def fR (o:Int):Prop:=∃n:Nat,o=(n:Int)/\n<65536/\(n / 4096=4\/n / 4096=8\/n / 4096=10\/n / 4096=12)
theorem ud (n j:Nat):ST (n:Int) j=n / 16 ^ (3 - j) % 16:=by
 unfold ST;rw[show((16:Int) ^ (3 - j))=((16 ^ (3 - j):Nat):Int) by rw[Int.natCast_pow];rfl,<-Int.ofNat_fdiv];have:=(Int.ofNat_fmod (n / 16 ^ (3 - j)) 16).symm;rw[show((n / 16 ^ (3 - j):Nat):Int).fmod 16=((n / 16 ^ (3 - j) % 16:Nat):Int) from this,gh]
theorem md:∀i,i<16->bO (fm.getD i 0)=i:=by decide
theorem ng:∀i,i<16->bO (i8.getD i 0)=i:=by decide
theorem yQ:∀i,i<16->fm.getD i 0∈XL:=by decide
theorem Az:∀i,i<16->i8.getD i 0∈XL:=by decide
theorem Ab (n a:Nat):n / (a * 16) * 16+n / a % 16=n / a:=by rw[<-Nat.div_div_eq_div_mul];exact Nat.div_add_mod' (n / a) 16
theorem FI {n:Nat}(h:n<65536):((ST (n:Int) 0 * 16+ST (n:Int) 1) * 16+ST (n:Int) 2) * 16+ST (n:Int) 3=n:=by
 rw[ud,ud,ud,ud];show((n / 4096 % 16 * 16+n / 256 % 16) * 16+n / 16 % 16) * 16+n / 1 % 16=n;rw[Nat.mod_eq_of_lt (Nat.div_lt_of_lt_mul h:n / 4096<16),Ab n 256,Ab n 16,Ab n 1,Nat.div_one]
theorem Et {o:Int}(h:fR o)(g:Bool):∃a b c d,uc o g = .WF a b c d/\((c6 a b c d:Nat):Int)=o:=by
 obtain⟨n,rfl,B,_⟩:x13:=h;have e:=FI B
 cases g with
 |false=>
  refine⟨_,_,_,_,rfl,?_⟩;unfold c6;rw[md _ (bF _ _),md _ (bF _ _),md _ (bF _ _),md _ (bF _ _),e]
 |true=>
  refine⟨_,_,_,_,rfl,?_⟩;unfold c6;rw[ng _ (bF _ _),ng _ (bF _ _),ng _ (bF _ _),ng _ (bF _ _),e]
theorem GZ {o:Int}(h:fR o)(g:Bool):(uc o g).OK:=by
 obtain⟨n,rfl,C,B⟩:x13:=h;have e:=FI C;have D:ST (n:Int) 0=n / 4096:=(ud n 0).trans (Nat.mod_eq_of_lt (Nat.div_lt_of_lt_mul C:n / 4096<16));have xF:n<55296:=gb (Nat.lt_mul_of_div_lt (show n / 4096<13 from by rcases B with q|q|q|q<;>(rw[q];decide)) (by decide)) (by decide)
 cases g with
 |false=>
  refine⟨?_,yQ _ (bF _ _),yQ _ (bF _ _),yQ _ (bF _ _),?_⟩
  .rw[D]
   rcases B with q|q|q|q<;>(rw[q];decide)
  .unfold c6;rw[md _ (bF _ _),md _ (bF _ _),md _ (bF _ _),md _ (bF _ _),e];exact xF
 |true=>
  refine⟨?_,Az _ (bF _ _),Az _ (bF _ _),Az _ (bF _ _),?_⟩
  .rw[D]
   rcases B with q|q|q|q<;>(rw[q];decide)
  .unfold c6;rw[ng _ (bF _ _),ng _ (bF _ _),ng _ (bF _ _),ng _ (bF _ _),e];exact xF
noncomputable def kq (x:Int)(r:cr)(g:Bool):List (Tk×List Nat):=hV x 0 (oO r.oct r.name r.kt g)
theorem UB {x:Int}{r:cr}{g:Bool}(h:fR r.oct)(rs:List RR):IR rs (kq x r g)=rs++[⟨r.oct,some r.name,r.kt⟩]:=by
 unfold kq;rw[R0];apply bd;intro B;obtain⟨a,b,c,d,e1,e2⟩:x42:=Et h g;apply B;unfold oO;rw[e1,List.foldl_cons,aL,List.foldl_cons];have D:LT rs (.WF a b c d)=rs++[⟨r.oct,none,[]⟩]:=by
  show rs++[⟨((c6 a b c d:Nat):Int),none,[]⟩]=_;rw[e2]
 have C:LT (rs++[⟨r.oct,none,[]⟩]) (.name r.name)=rs++[⟨r.oct,some r.name,[]⟩]:=by simp[LT,RR.put]
 rw[D,C,T8]
 simp
theorem WH (rs:List RR)(a b:List (Tk×List Nat)):IR rs (a++b)=IR (IR rs a) b:=by unfold IR;rw[List.foldl_append]
noncomputable def Ch:List (Int×cr×Bool)->List (Tk×List Nat):=λ l=>l.flatMap λ p=>kq p.1 p.2.1 p.2.2
theorem Ww:∀(l:List (Int×cr×Bool)) (rs:List RR),(∀p∈l,fR p.2.1.oct)->IR rs (Ch l)=rs++l.map λ p=>⟨p.2.1.oct,some p.2.1.name,p.2.1.kt⟩:=by
 intro B
 induction B with
 |nil=>
  intro rs _
  simp[Ch,IR]
 |cons p l C=>
  intro rs h;unfold Ch;rw[dz,WH,(UB (h p (aN ..)))];have:=C (rs++[⟨p.2.1.oct,some p.2.1.name,p.2.1.kt⟩]) λ q D=>h q (aT _ D)
  unfold Ch at this;rw[this]
  simp
def tw (y:Str):Prop:=39∉y.cps.toList/\∀a∈y.cps.toList,ct (wP a)=false
theorem Ya {x:Int}{P:Tk->Prop}:∀{C:List Tk}{k:Nat},(∀t∈C,P t)->∀p∈hV x k C,P p.1/\eW p.2:=by
 intro D
 induction D with
 |nil=>
  intro k _ p B;cases B
 |cons t C G=>
  intro k h p B
  rcases aG.mp B with rfl|B
  .exact⟨h t (aN ..),Ib x k⟩
  .exact G (λ t H=>h t (aT _ H)) p B
theorem J0 {l:List (Int×cr×Bool)}(J:∀p∈l,fR p.2.1.oct)(H:∀p∈l,tw p.2.1.name/\∀y∈p.2.1.kt,tw y):∀q∈Ch l,q.1.OK/\eW q.2:=by
 intro q G;obtain⟨p,C,G⟩:=List.mem_flatMap.mp G;refine Ya (P:=Tk.OK) (λ t B=>?_) q G;unfold oO at B
 rcases aG.mp B with rfl|B
 .exact GZ (J p C) _
 .obtain⟨y,D,rfl⟩:=aI.mp B
  rcases aG.mp D with rfl|D
  .exact(H p C).1
  .exact(H p C).2 y D
theorem sZ {l:List (Int×cr×Bool)}:∀p,(Ch l).head? = some p->jC p.1=true:=by
 intro p B
 cases l with
 |nil=>cases B
 |cons q l=>
  obtain(⟨x,r,g⟩):=q;have:(Ch ((x,r,g)::l)).head? = some (uc r.oct g,pr x 0):=by
   unfold Ch;rw[dz]
   rfl
  rw[this] at B;cases B;cases g<;>rfl
theorem HV (n:Int):fR (wj n):=by
 unfold wj;have C:=Ep n;have D:=nK (n.fdiv 4) (b:=4096) (by decide);apply bd;intro H;obtain⟨m,e2⟩:=Int.eq_ofNat_of_zero_le (lX (n.fdiv 4) (b:=4096) (by decide));obtain⟨q,J,G,e1⟩:x13:=(by decide:∀i,i<4->∃q,q<13/\(q=4\/q=8\/q=10\/q=12)/\AV.getD i 0=((4096 * q:Nat):Int)) _ ((Int.toNat_lt C.1).mpr C.2);apply H;rw[e2] at D;have B:=Int.ofNat_lt.mp D;rw[e1,e2];refine⟨4096 * q+m,rfl,gb (Nat.add_lt_add_of_le_of_lt (Nat.mul_le_mul_left 4096 (Nat.le_of_lt_succ J)) B) (by decide),?_⟩;rw[(Nat.mul_add_div (by decide)),Nat.div_eq_of_lt B];exact G
noncomputable def bk (R:List cr):List (Str×PV):=(R.map λ r=>(r.name,PV.int r.oct)).foldl (λ es kv=>bE es kv.1 kv.2) []
noncomputable def kJ (R:List cr)(y:Str):Int:=match (bk R).lookup y with
 |some (.int m)=>m
 |_=>0
theorem Qu {es:List (Str×PV)}{k:Str}{x:PV}:∀p∈bE es k x,p.2=x\/p∈es:=by
 intro p B;unfold bE at B
 split at B
 .obtain⟨q,C,rfl⟩:=aI.mp B
  split
  .exact .inl rfl
  .exact .inr C
 .rcases be.mp B with h|h
  .exact .inr h
  .exact .inl (by rw[aO.mp h])
theorem U8:∀(kvs es:List (Str×PV)),∀p∈kvs.foldl (λ es B=>bE es B.1 B.2) es,(∃q∈kvs,p.2=q.2)\/p∈es:=by
 intro C
 induction C with
 |nil=>
  intro es p h;exact .inr h
 |cons B kvs D=>
  intro es p h
  rcases D _ p h with⟨q,H,G⟩|h
  .exact .inl ⟨q,.tail _ H,G⟩
  .rcases Qu p h with h|h
   .exact .inl ⟨B,.head _,h⟩
   .exact .inr h
theorem Qk {R:List cr}{y:Str}{v:PV}(h:(bk R).lookup y=some v):∃r∈R,v = .int r.oct:=by
 rcases U8 _ _ _ (pb h) with⟨q,B,D⟩|h
 .obtain⟨r,C,rfl⟩:=aI.mp B;exact⟨r,C,D⟩
 .cases h
theorem BI {R:List cr}(y:Str):((bk R).lookup y=some (.int (kJ R y))\/(bk R).lookup y=none/\kJ R y=0)/\((∃r∈R,kJ R y=r.oct)\/kJ R y=0):=by
 unfold kJ
 cases e:(bk R).lookup y with
 |none=>exact⟨.inr ⟨rfl,rfl⟩,.inr rfl⟩
 |some v=>
  obtain⟨r,B,rfl⟩:=Qk e;exact⟨.inl rfl,.inl ⟨r,B,rfl⟩⟩
noncomputable def gJ (R:List cr)(y:Str):Str:=ek (kJ R y) 3
theorem OY {R:List cr}(D:∀r∈R,fR r.oct)(y:Str):qv (kJ R y)=gJ R y:=by
 unfold gJ
 rcases (BI (R:=R) y).2 with⟨r,C,e⟩|e
 .obtain⟨n,e2,B,G⟩:x13:=D r C;rw[e,e2];exact JT B (.inr G)
 .rw[e];exact JT (n:=0) (by decide) (.inl rfl)
theorem jZ:∀y∈TW,tw y/\kl y/\y.length<=5:=by
 intro y B;unfold TW at B;simp only[aG,e7,or_false] at B
 rcases B with rfl|rfl|rfl|rfl|rfl<;>exact⟨⟨by decide,by decide⟩,⟨by decide +kernel,by decide⟩,by decide⟩
theorem wW {n:Int}{y:Str}(h:y∈kN n):y∈TW:=by
 unfold kN at h;rw[List.mem_filterMap] at h;obtain⟨o,D,e⟩:=h;obtain⟨j,B,rfl⟩:=aI.mp D;have B:=ke.mp B
 cases C:oJ n j with
 |false=>rw[C] at e;cases e
 |true=>
  rw[C] at e;have e:TW.getD j default=y:=by injection e
  rw[<-e,rL,dc (show j<TW.length from B)];exact List.getElem_mem _
theorem w9 (n:Int):(kN n).length<=5:=by
 unfold kN;refine av (List.length_filterMap_le _ _) ?_
 simp
theorem Nz {α:Type}{f:α->List Str}{m:Nat}:∀{l:List α},(∀x∈l,(f x).length<=m)->(l.flatMap f).length<=l.length * m:=by
 intro B
 induction B with
 |nil=>
  intro _
  simp
 |cons x l C=>
  intro h;rw[dz,aP,cN,Nat.succ_mul];have:=h x (aN ..);have:=C λ y D=>h y (aT _ D)
  lia
theorem OH (R:List cr):(GT R).length=(R.flatMap (·.kt)).length:=by
 induction R with
 |nil=>rfl
 |cons r R B=>
  unfold GT at B ⊢;rw[dz,dz,aP,aP,B];unfold cr.GT;rw[aE]
theorem E6 (R:List cr):(TT [] (bT (AT R))).Pairwise (λ a b=>cF a b=true)/\(TT [] (bT (AT R))).Nodup/\∀z,z∈TT [] (bT (AT R))↔z∈AT R:=
 ⟨(yC _).sublist (tW _ _),wb _ _,λ z=>by rw[(uA)];simp[(lz _).mem_iff]⟩
theorem MY (R:List cr):∃rs D',bK (TT [] (bT (AT R))) (GT R) [] rs D':=bK.ex (E6 R).2.1 (TT [] (bT (AT R))).length [] eR.nil (by simp)
theorem AK {xs:List Str}(h:∀x∈xs,kl x):Ev (.lst (xs.map .str)) 1 (xs.length * 101):=by
 refine(Ev.lst (d:=0) (k:=100) λ x C=>?_).mono (aJ _) (by rw[aE];exact aJ _);obtain⟨y,B,rfl⟩:=aI.mp C;exact Ev.str (h y B)
theorem bK.Fv (r:bK Nm E D rs D'):∀g∈rs,(∀y∈g,y∈Nm)/\g.length<=Nm.length:=by
 induction r with
 |done=>intro g B;cases B
 |step _ _ C=>
  intro g B
  rcases aG.mp B with rfl|B
  .exact⟨λ y G=>(mX.mp G).1,List.length_filter_le _ _⟩
  .exact C g B
theorem Yx {b:Bool}(G:Nm.Nodup)(C:∀y∈Nm,kl y)(N:Nm.length<=64)(r:bK Nm E [] rs D'):Ev (.lst [.bool b,.lst (rs.map λ g=>.lst (g.map .str))]) 3 (2 * (64 * (64 * 101+1)+1)):=by
 have ft:rs.length<=64:=by
  have R:=r.len;have q2:=r.ok G eR.nil;have M:=ip q2.wv q2.sub
  lia
 refine(Ev.lst (d:=2) (k:=64 * (64 * 101+1)) λ z B=>?_).mono (by decide) (by simp);simp only[aG,e7,or_false] at B
 rcases B with rfl|rfl
 .exact Ev.bool.mono (by decide) (by decide)
 .refine(Ev.lst (d:=1) (k:=64 * 101) λ x H=>?_).mono (by decide) (by rw[aE];exact lV _ ft);obtain⟨g,D,rfl⟩:=aI.mp H;obtain⟨J,O⟩:x02:=r.Fv g D;exact(AK λ y L=>C y (J y L)).mono (by decide) (by lia)
def gW (x:Str)(n:Nat):Prop:=(∀c∈x.cps.toList,c<0x110000)/\x.cps.size<=n
theorem gW.app {x y:Str}{n m:Nat}(h:gW x n)(k:gW y m):gW (x++y) (n+m):=by
 have e:(x++y).cps.toList=x.cps.toList++y.cps.toList:=by show(x.cps++y.cps).toList=_;simp
 have e2:(x++y).cps.size=x.cps.size+y.cps.size:=by show(x.cps++y.cps).size=_;simp
 refine⟨λ c B=>?_,by rw[e2];have:=h.2;have:=k.2;lia⟩;rw[e] at B
 rcases be.mp B with q|q
 .exact h.1 c q
 .exact k.1 c q
theorem gW.Pz {x:Str}{n:Nat}(h:gW x n)(B:n<=100):kl x:=by
 refine⟨?_,av h.2 B⟩;show x.cps.all (· < 0x110000)=true;rw[(Array.all_eq_true')];intro c C;exact decide_eq_true (h.1 c (Array.mem_toList_iff.mpr C))
theorem t6 (x:Str)(h:(x.cps.toList.all (· < 0x110000)&&decide (x.cps.size<=1))=true):gW x 1:=by
 rw[fG,j6] at h;exact⟨λ c B=>of_decide_eq_true (h.1 c B),of_decide_eq_true h.2⟩
theorem RU (m:Int):kl (ek m 3):=by
 have H:gW (fx m) 1:=by
  unfold fx
  cases e:dB.lookup (m.fdiv 4096 * 4096) with
  |none=>exact t6 _ (by decide)
  |some c=>
   have L:c∈dB.map (·.2):=by
    obtain⟨T,R,h,_⟩:=List.lookup_eq_some_iff.mp e;rw[h];simp
   exact t6 _ ((by decide:∀c∈dB.map (·.2),(c.cps.toList.all (· < 0x110000)&&decide (c.cps.size<=1))=true) c L)
 have C:∀k,gW (cT m k) 1:=λ k=>by unfold cT;split<;>exact t6 _ (by decide)
 have B:∀k,gW (cU m k) 1:=λ k=>by unfold cU;split<;>exact t6 _ (by decide)
 have G:∀k,k<3->gW (cx m k) 1:=λ k J=>by
  unfold cx;have:=Ac m k;generalize ((dj m k).fmod 2+2 * ownOf m k)=z at this;have:z.toNat<4:=by lia
  generalize z.toNat=i at this;have D:∀k,k<3->∀i,i<4->((((kF k).getD i default).cps.toList.all (· < 0x110000))&&decide (((kF k).getD i default).cps.size<=1))=true:=by decide
  exact t6 _ (D k J i this)
 have N:=(((H.app (C 0)).app (B 0)).app (G 0 (by decide)));have O:=(((N.app (C 1)).app (B 1)).app (G 1 (by decide)));have M:=(((O.app (C 2)).app (B 2)).app (G 2 (by decide)));exact gW.Pz (x:=ek m 3) M (by decide)
structure fL (R:List cr):Prop where
 len:R.length<=3
 mode:∀r∈R,fR r.oct
 name:∀r∈R,r.name∈TW
 need:∀r∈R,∀y∈r.kt,y∈TW
 w4:∀r∈R,r.kt.length<=5
theorem fL.all (H:fL R):∀y∈AT R,y∈TW:=by
 intro y B;unfold AT at B
 rcases be.mp B with B|B
 .obtain⟨r,C,rfl⟩:=aI.mp B;exact H.name r C
 .obtain⟨r,C,B⟩:=List.mem_flatMap.mp B;exact H.need r C y B
theorem fL.nl (H:fL R):(R.flatMap (·.kt)).length<=15:=av (Nz H.w4) (lV 5 H.len)
theorem fL.H0 (H:fL R):(AT R).length<64:=by
 unfold AT;rw[aP,aE];have:=H.nl;have:=H.len
 lia
theorem fL.lay (H:fL R):Ev (.lst (R.map cr.pv)) 3 10000:=by
 refine(Ev.lst (d:=2) (k:=1600) λ x G=>?_).mono (by decide) (by rw[aE];have:=H.len;lia);obtain⟨r,B,rfl⟩:=aI.mp G;refine(Ev.lst (d:=1) (k:=505) λ z C=>?_).mono (aJ _) (by show 3 * (505+1)<=_;decide);simp only[aG,e7,or_false] at C
 rcases C with rfl|rfl|rfl
 .obtain⟨n,e,D,_⟩:x13:=H.mode r B;rw[e];exact(Ev.int (ww D rfl)).mono (by decide) (by decide)
 .exact(Ev.str (jZ _ (H.name r B)).2.1).mono (by decide) (by decide)
 .refine(AK λ y J=>(jZ _ (H.need r B y J)).2.1).mono (by decide) ?_;have:=H.w4 r B;exact lV _ this
section
section
variable {fd:aU}{L f:Addr}{ph:List PO}{fs:List (Addr×Data)}
noncomputable def IL:Scope:={kind:=e8,names:=[(".0",NameKind.local),("octal",NameKind.local),("name",NameKind.local),("needs",NameKind.local)],isGenerator:=false,isCoroutine:=false}
theorem Ij {ms:aB}{R:List cr}{iter:aF}{db:List PO}{fs}(H:fL R)(K:ut ms)(D:A.handled=none)(k1:ms.kindOf "octal"=some .local)(k2:ms.kindOf "name"=some .local)(k3:ms.kindOf "needs"=some .local):
  nT pp w V A ms (oK pp w V A ms (.Name "name" p4) (.Name "octal" p5) db.length) (λ _=>True) [⟨.Tuple [.Name "octal" p1,.Name "name" p2,.Name "needs" p3] k pos,iter,[],0⟩] (R.map cr.pv) ⟨[],db++[.dict [] none],fs⟩ ⟨[],db++[.dict (bk R) none],fs⟩:=by
 refine V7 (es:=[]) (xs:=R.map cr.pv) (kvs:=R.map λ r=>(r.name,PV.int r.oct)) (by simp) (λ i x M C B J=>?_) (by rw[aE,ak];have:=H.len;simp;exact ww this rfl);rw[cM] at C B;obtain⟨r,G,rfl⟩:=pA.mp C;rw[G] at B;obtain rfl:=Option.some.inj B;refine⟨[("needs",.lst (r.kt.map .str)),("name",.str r.name),("octal",.int r.oct)],AJ.pM D (.cons (AJ.name K (.inl k1)) (.cons (AJ.name K (.inl k2)) (.cons (AJ.name K (.inl k3)) .nil rfl) rfl) rfl),EJ.loc rfl k2 K,EJ.weak (EJ.loc rfl k1 K) .nil⟩
noncomputable def qi (x:Str)(R:List cr)(T:PV):List (Str×PV):=[("told",T),("rounds",T),("read",.lst (R.map cr.pv)),("error",.bool true),("text",.str x),("due",.lst (R.map cr.pv))]
noncomputable def mM (R:List cr)(T:PV)(n m:Nat):List (Str×PV):=[("modes",.ref n),("kept",.ref m),("told",T),("rounds",T),("read",.lst (R.map cr.pv)),("due",.lst (R.map cr.pv))]
theorem QN {x:Str}{R:List cr}{T:PV}(G:cB V)(D:fL R)(B:A.handled=none)(K:ut (callEnvC (gt fd (sA 57)) L f)):
  SJ pp w V A (callEnvC (gt fd (sA 57)) L f) (gl (ay (sA 57)) 3) ⟨qi x R T,ph,fs⟩ ⟨mM R T ph.length (ph++[PO.dict (bk R) none]).length,ph++[.dict (bk R) none]++[.dict (bk R) none],fs⟩ .next:=by
 have H:az (callEnvC (gt fd (sA 57)) L f) "modes":=.inr ⟨rfl,rfl,rfl⟩;have M:az (callEnvC (gt fd (sA 57)) L f) "kept":=.inr ⟨rfl,rfl,rfl⟩;refine SJ.sw (l:=mM R T ph.length (ph++[PO.dict (bk R) none]).length) (al:=⟨("kept",.ref (ph++[PO.dict (bk R) none]).length)::("modes",.ref ph.length)::qi x R T,ph++[.dict (bk R) none]++[.dict (bk R) none],fs⟩) ?_ (aw.cons rfl (aw.cons rfl (aw.cons rfl (aw.cons rfl (aw.cons rfl (aw.cons rfl .nil))))));refine SJ.assign_tuple (al:=⟨qi x R T,ph++[.dict (bk R) none]++[.dict (bk R) none],fs⟩) (v:=.tup [.ref ph.length,.ref (ph++[PO.dict (bk R) none]).length]) ?_ (AJ.kE B (.cons (AJ.name K H) (.cons (AJ.name K M) .nil rfl) rfl));exact EJ.tuple (am.cons (EJ.dictcomp (cl:=[]) (ge:=[]) (ln:=[]) (v:=.lst (R.map cr.pv)) G B (P3.of rfl rfl rfl rfl .nil .nil) (EJ.loc rfl rfl K) rc.lst λ C d J=>Ij D (K.comp (scope:=IL) (cl:=[]) (C:=C) rfl) B rfl rfl rfl) (am.cons (EJ.dictcomp (cl:=[]) (ge:=[]) (ln:=[]) (v:=.lst (R.map cr.pv)) G B (P3.of rfl rfl rfl rfl .nil .nil) (EJ.loc rfl rfl K) rc.lst λ C d J=>Ij D (K.comp (scope:=IL) (cl:=[]) (C:=C) rfl) B rfl rfl rfl) am.nil)) (by rw[ak];show 2<=_;decide)
end
end
section
section
variable {fd:aU}{L f:Addr}{ph:List PO}{fs:List (Addr×Data)}
noncomputable def Ji (dn:Str):Scope:={kind:=e8,names:=[(".0",NameKind.local),("group",NameKind.local),(dn,dN)],isGenerator:=false,isCoroutine:=false}
noncomputable def ic (vH dn:Str):Scope:={kind:=e8,names:=[(".0",NameKind.local),("name",NameKind.local),(vH,NameKind.globalImplicit),(dn,dN)],isGenerator:=false,isCoroutine:=false}
noncomputable def dQ (b:Bool)(rs:List (List Str)):PV:=.lst [.bool b,.lst (rs.map λ g=>.lst (g.map .str))]
noncomputable def lB (S:Str->Str)(rs:List (List Str)):PV:=.lst (rs.map λ g=>.lst ((g.map S).map .str))
theorem FL {n:Nat}{S:Str->Str}{rs:List (List Str)}:PV.TD n (rs.map λ g=>PV.lst ((g.map S).map .str)):=by
 refine uh (f:=λ g:List Str=>PV.lst ((g.map S).map .str)) λ g=>?_
 exact fe (xs:=g.map S)
theorem NY {m:Int}{ph:List PO}(G:i0 w V mg mb):nb pp w V 2 (G.fn 48) [.int m] [] ph ph (.str (qv m)):=nb.forget (Nt G) (λ i B=>cm B) trivial
theorem RV {R:List cr}{b:Bool}{rs:List (List Str)}{n m:Nat}(G:i0 w V mg mb)(N:fL R)(D:wn A 2)(C:Uf A (callEnvC (gt fd (sA 57)) L f) fs)(K:ut (callEnvC (gt fd (sA 57)) L f))(T:ph[n]? = some (.dict (bk R) none))(O:rs.length<=1000)(M:∀g∈rs,g.length<=1000):
  SJ pp w V A (callEnvC (gt fd (sA 57)) L f) (gl (ay (sA 57)) 4) ⟨mM R (dQ b rs) n m,ph,fs⟩ ⟨("listed",lB (gJ R) rs)::mM R (dQ b rs) n m,ph,fs⟩ .next:=by
 obtain⟨o,Ok,At⟩:=(G.d 48).fn.at_;refine SJ.Es (cl:=[("modes",L+1)]) (ge:=[("modes",.ref n)]) (ln:=[("modes",.ref n)]) K (.inl rfl) D.handled (P3.of rfl rfl rfl rfl (.cons rfl .nil) (.cons ⟨rfl,.inl rfl,.inl rfl⟩ .nil)) (EJ.sub (EJ.loc rfl rfl K) EJ.ci (GJ.lst (by decide) (by decide) rfl)) rc.lst ?_ FL rfl;intro J d Y;refine wf.all (λ _=>trivial) (by rw[ak];exact ww O rfl) λ g uu=>?_
 have B:=K.comp (scope:=Ji "modes") (cl:=[("modes",L+1)]) (C:=J) rfl;refine Fr.nS B (.inl rfl) (aw.cons rfl .nil) λ Z=>?_
 have U:∀y ph,nb pp w V 2 (G.fn 48) [.int (kJ R y)] [] ph ph (.str (gJ R y)):=λ y ph=>OY N.mode y▸NY G
 exact H8 (ic:=ic "filemode" "modes") D.handled D G.mods Ok At U (λ y=>(BI y).1) (il _ _ _ _ T) (P3.of rfl rfl rfl rfl (.cons rfl .nil) (.cons ⟨rfl,(by first|exact .inl rfl|exact .inr rfl),(by first|exact .inl rfl|exact .inr rfl)⟩ .nil)) (C.inner Y) (EJ.loc rfl rfl B) (M g uu) (λ C=>B.comp rfl) (λ C=>rfl) rfl (λ C st H=>EJ.top G.toTop1 (B.comp rfl) 48 rfl rfl) (λ C y bn xx H=>EJ.cell rfl rfl rfl (B.comp rfl))
end
end
section
theorem R9 {R:List cr}{rs:List (List Str)}(G:rs.length<=64)(C:∀g∈rs,g.length<=64):Ev (lB (gJ R) rs) 2 (64 * (64 * 101+1)):=by
 refine(Ev.lst (d:=1) (k:=64 * 101) λ x B=>?_).mono (by decide) (by rw[aE];exact lV _ G);obtain⟨g,uu,rfl⟩:=aI.mp B;refine(AK λ y D=>?_).mono (by decide) (by rw[aE];have:=C g uu;exact lV _ this);obtain⟨z,H,rfl⟩:=aI.mp D;exact RU _
section
variable {fd:aU}{L f:Addr}{ph:List PO}{fs:List (Addr×Data)}
theorem Yz {R:List cr}{b:Bool}{rs:List (List Str)}{n m:Nat}(G:i0 w V mg mb)(c:fL R)(H:wn A 2)(C:Uf A (callEnvC (gt fd (sA 57)) L f) fs)(K:ut (callEnvC (gt fd (sA 57)) L f))(U:ph[m]? = some (.dict (bk R) none))(O:rs.length<=64)(N:∀g∈rs,g.length<=64):
  SJ pp w V A (callEnvC (gt fd (sA 57)) L f) (gl (ay (sA 57)) 5) ⟨("listed",lB (gJ R) rs)::mM R (dQ b rs) n m,ph,fs⟩ ⟨("listed",lB (gJ R) rs)::mM R (dQ b rs) n m,ph,fs⟩ (.ret (.bool true)):=by
 obtain⟨o,Ok,At⟩:=(G.d 54).fn.at_;have B:=R9 (R:=R) O N;have Y:A.units+64<cLine:=H.u 64;have Z:EJ pp w V A (callEnvC (gt fd (sA 57)) L f) (sub (KT (gl (ay (sA 57)) 5) 0) 1) ⟨("listed",lB (gJ R) rs)::mM R (dQ b rs) n m,ph,fs⟩ ⟨("listed",lB (gJ R) rs)::mM R (dQ b rs) n m,ph,fs⟩ (lB (gJ R) rs):=by
  refine EJ.listcomp (cl:=[("kept",L+1+1)]) (ge:=[("kept",.ref m)]) (ln:=[("kept",.ref m)]) H.handled (P3.of rfl rfl rfl rfl (.cons rfl .nil) (.cons ⟨rfl,.inl rfl,.inl rfl⟩ .nil)) (EJ.sub (EJ.loc rfl rfl K) EJ.ci (GJ.lst (by decide) (by decide) rfl)) rc.lst ?_ FL;intro T d I;refine wf.all (λ _=>trivial) (by rw[ak];exact ww O rfl) λ g uu=>?_
  have D:=K.comp (scope:=Ji "kept") (cl:=[("kept",L+1+1)]) (C:=T) rfl;refine Fr.nS D (.inl rfl) (aw.cons rfl .nil) λ E=>?_
  have Q:∀y ph,nb pp w V 2 (G.fn 54) [.int (kJ R y)] [] ph ph (.str (gJ R y)):=λ y ph=>nb.more (Yv G.toTop1)
  exact H8 (ic:=ic "_law_signs" "kept") H.handled H G.mods Ok At Q (λ y=>(BI y).1) (il _ _ _ _ U) (P3.of rfl rfl rfl rfl (.cons rfl .nil) (.cons ⟨rfl,(by first|exact .inl rfl|exact .inr rfl),(by first|exact .inl rfl|exact .inr rfl)⟩ .nil)) (C.inner I) (EJ.loc rfl rfl D) (av (N g uu) (by decide)) (λ C=>D.comp rfl) (λ C=>rfl) rfl (λ C st J=>EJ.top G.toTop1 (D.comp rfl) 54 rfl rfl) (λ C y bn xx J=>EJ.cell rfl rfl rfl (D.comp rfl))
 have M:PyData.eqv (lB (gJ R) rs).D (lB (gJ R) rs).D=true:=B.refl;exact SJ.ret (M▸EJ.li (EJ.loc rfl rfl K) Z (CJ.eq_data Y B.bR B.bR B.layable B.layable))
end
theorem SK {n:Nat}{b:Bool}{rs:List (List Str)}:PV.lt n (dQ b rs):=by
 refine And.intro trivial (And.intro ?_ trivial);refine uh (f:=λ g:List Str=>PV.lst (g.map .str)) λ g=>?_
 exact fe (xs:=g)
theorem NV {x:Str}{R:List cr}{ph:List PO}(G:i0 w V mg mb)(N:fL R)(Oa:nb pp w V 6 (G.fn 56) [.str x] [] ph ph (.lst [.bool true,.lst (R.map cr.pv)])):
  nb pp w V 7 (G.fn 57) [.str x,.lst (R.map cr.pv)] [] ph ph (.bool true):=by
 have D:=G.d 57;apply bd;intro q;obtain⟨B,U,RR⟩:x21:=MY R;have F:=E6 R;have EA:∀y∈AT R,kl y:=λ y O=>(jZ _ (N.all y O)).2.1
 have ti:(TT [] (bT (AT R))).length<=64:=by
  have:=(tW [] (bT (AT R))).length_le;have:=(lz (AT R)).length_eq;have:=N.H0
  lia
 obtain⟨bn,nU,Y⟩:=UL (R:=R) (ph:=ph) G.toTop2 TW (by decide) N.all (by rw[OH];have:=N.nl;exact fK this rfl) F.1 F.2.1 F.2.2 RR;obtain⟨X,n4,oR⟩:=(G.d 56).fn.at_;obtain⟨o3,Nk,QB⟩:=(G.d 52).fn.at_;obtain⟨z,MO,Nl⟩:=(G.d 53).fn.at_;apply q;have Y:=nb.forget Y nU SK;have BA:=Ms (ph:=ph) G.toTop1 EA N.H0 RR;have J:=N.lay;have Z:(!PyData.eqv (PV.lst (R.map cr.pv)).D (PV.lst (R.map cr.pv)).D)=false:=by rw[J.refl];rfl
 have qD:Ev (dQ (decide ((U.length:Int)<((TT [] (bT (AT R))).length:Int))) B) 3 _:=Yx F.2.1 (λ y O=>EA y ((F.2.2 y).mp O)) ti RR;have xr:(!PyData.eqv (dQ (decide ((U.length:Int)<((TT [] (bT (AT R))).length:Int))) B).D (dQ (decide ((U.length:Int)<((TT [] (bT (AT R))).length:Int))) B).D)=false:=by rw[qD.refl];rfl
 have ft:B.length<=64:=by
  have q1:=RR.len;have q2:=RR.ok F.2.1 eR.nil;have r:=ip q2.wv q2.sub
  lia
 have oN:∀g∈B,g.length<=64:=λ g Q=>av (RR.Fv g Q).2 ti
 change nb pp w V 5 (G.fn 52) [.lst (R.map cr.pv)] [] ph ph (dQ (decide ((U.length:Int)<((TT [] (bT (AT R))).length:Int))) B) at Y
 change nb pp w V 2 (G.fn 53) [.lst (R.map cr.pv)] [] ph ph (dQ (decide ((U.length:Int)<((TT [] (bT (AT R))).length:Int))) B) at BA
 generalize decide ((U.length:Int)<((TT [] (bT (AT R))).length:Int))=b at Y BA xr qD;refine nb.forget (bn:=ph++[.dict (bk R) none]++[.dict (bk R) none]) (nb.of_body (loc:=[("text",.str x),("due",.lst (R.map cr.pv))]) (fl:=.ret (.bool true)) (ln:=[]) G.T D.fn (re.p2 λ u v=>D.binds λ _=>rfl) (D.locs ["text","due"] (by decide) rfl) ?_) (λ i k=>?_) trivial
 .intro A L H M C;rw[D.gz] at C ⊢;have K:=D.hK (L:=L);generalize At:G.fd 57=fd at K C ⊢;generalize jX:G.fn 57=f at K C ⊢;have I:A.units+64<cLine:=M.u 64;have c:SJ pp w V A (callEnvC (gt fd (sA 57)) L f) (gl (ay (sA 57)) 0) ⟨[("text",.str x),("due",.lst (R.map cr.pv))],ph,H⟩ ⟨[("read",.lst (R.map cr.pv)),("error",.bool true),("text",.str x),("due",.lst (R.map cr.pv))],ph,H⟩ .next:=
   SJ.assign_tuple (EJ.bq (bi:=⟨[("text",.str x),("due",.lst (R.map cr.pv))],ph,H⟩) (EJ.top G.toTop1 K 56 rfl rfl) n4 oR (am.cons (EJ.loc rfl rfl K) am.nil) Oa M C.cw) (AJ.pM M.handled (.cons (AJ.name K (.inl rfl)) (.cons (AJ.name K (.inl rfl)) .nil rfl) rfl))
  have p:SJ pp w V A (callEnvC (gt fd (sA 57)) L f) (gl (ay (sA 57)) 1) ⟨[("read",.lst (R.map cr.pv)),("error",.bool true),("text",.str x),("due",.lst (R.map cr.pv))],ph,H⟩ ⟨qi x R (dQ b B),ph,H⟩ .next:=by
   refine SJ.mT (vs:=[dQ b B,dQ b B]) (al:=⟨[("read",.lst (R.map cr.pv)),("error",.bool true),("text",.str x),("due",.lst (R.map cr.pv))],ph,H⟩) ["told","rounds"] K M.handled ?_ rfl rfl (by intro y O;simp at O;rcases O with rfl|rfl<;>exact .inl rfl) rfl rfl;exact EJ.tuple (am.cons (EJ.bq (bi:=⟨[("read",.lst (R.map cr.pv)),("error",.bool true),("text",.str x),("due",.lst (R.map cr.pv))],ph,H⟩) (EJ.top G.toTop1 K 52 rfl rfl) Nk QB (am.cons (EJ.loc rfl rfl K) am.nil) Y (M.mono (by decide)) C.cw) (am.cons (EJ.bq (bi:=⟨[("read",.lst (R.map cr.pv)),("error",.bool true),("text",.str x),("due",.lst (R.map cr.pv))],ph,H⟩) (EJ.top G.toTop1 K 53 rfl rfl) MO Nl (am.cons (EJ.loc rfl rfl K) am.nil) BA (M.mono (by decide)) C.cw) am.nil)) (by rw[ak];show 2<=_;decide)
  have d:SJ pp w V A (callEnvC (gt fd (sA 57)) L f) (gl (ay (sA 57)) 2) ⟨qi x R (dQ b B),ph,H⟩ ⟨qi x R (dQ b B),ph,H⟩ .next:=
   SJ.iff (b:=false) (TJ.m5 (TJ.not (b:=true) (TJ.val (EJ.loc rfl rfl K) VT.bool)) (TJ.m5 (Z▸TJ.li (EJ.loc rfl rfl K) (EJ.loc rfl rfl K) (CJ.ne_data I J.bR J.bR J.layable J.layable)) (TJ.m5 (xr▸TJ.li (EJ.loc rfl rfl K) (EJ.loc rfl rfl K) (CJ.ne_data I qD.bR qD.bR qD.layable qD.layable)) TJ.or_nil))) XJ.nil
  have o:=QN (w:=w) (x:=x) (T:=dQ b B) (ph:=ph) (fs:=H) G.mods N M.handled K;have E:=RV (ph:=ph++[.dict (bk R) none]++[.dict (bk R) none]) (b:=b) (rs:=B) (n:=ph.length) (m:=(ph++[PO.dict (bk R) none]).length) G N (M.mono (by decide)) C.cw K (il _ _ _ _ nB) (ww ft rfl) (λ g Q=>av (oN g Q) (by decide));have j:=Yz (ph:=ph++[.dict (bk R) none]++[.dict (bk R) none]) (b:=b) (rs:=B) (n:=ph.length) (m:=(ph++[PO.dict (bk R) none]).length) G N (M.mono (by decide)) C.cw K nB ft oN;exact XJ.sw (XJ.cons c (XJ.cons p (XJ.cons d (XJ.cons o (XJ.cons E (XJ.ret j)))))) aw.nil
 .rw[eH];exact cm k
end
noncomputable abbrev ee:=Int×cr×Bool
noncomputable def v0 (p:ee):Str:=iu p.1 (fC p.2.1.oct p.2.1.name p.2.1.kt p.2.2) (fC p.2.1.oct p.2.1.name p.2.1.kt p.2.2).length
theorem z5 (p:ee):(v0 p).cps.toList=pc (kq p.1 p.2.1 p.2.2):=QM p.1 _ _ (Mj _ _ _ _)
theorem Ik (l:List ee):(l.map v0).flatMap (·.cps.toList)=pc (Ch l):=by
 unfold Ch pc;rw[List.flatMap_assoc,List.flatMap_map]
 congr 1
 funext p
 exact z5 p
theorem yD (a b:List (Tk×List Nat)):pc (a++b)=pc a++pc b:=by unfold pc;rw[List.flatMap_append]
structure zq (p:ee)(a b c d n0:Nat)(N Z:List Nat):Prop where
 WF:uc p.2.1.oct p.2.2 = .WF a b c d
 ok:Tk.OK (.WF a b c d)
 name:p.2.1.name.cps.toList=n0::N
 codes:(v0 p).cps.toList=[a,b,c,d]++(pr p.1 0++39::n0::(N++39::Z))
theorem Hy {p:ee}{n0:Nat}{N:List Nat}(D:fR p.2.1.oct)(C:p.2.1.name.cps.toList=n0::N):∃a b c d Z,zq p a b c d n0 N Z:=by
 obtain⟨a,b,c,d,e,_⟩:x42:=Et D p.2.2;have B:=GZ D p.2.2;rw[e] at B;refine⟨a,b,c,d,pr p.1 1++pc (hV p.1 2 (p.2.1.kt.map .name)),e,B,C,?_⟩;rw[z5];unfold kq oO;rw[e,aL];show pc ((Tk.WF a b c d,pr p.1 0)::(Tk.name p.2.1.name,pr p.1 1)::hV p.1 2 (p.2.1.kt.map .name))=_;unfold pc;rw[dz,dz];show([a,b,c,d]++pr p.1 0)++((39::(p.2.1.name.cps.toList++[39]))++pr p.1 1++_)=_;rw[C]
 simp
theorem Q9 (x:Int)(k:Nat):∀j,(pr x k)[j]? = some 39->(pr x k)[j+1]? = some 115:=by
 unfold pr nP;have G:=nK (x.fdiv 524288+k) (b:=5) (by decide);have H:=lX (x.fdiv 524288+k) (b:=5) (by decide);have h:((x.fdiv 524288+k).fmod 5).toNat<5:=(Int.toNat_lt H).mpr G;generalize ((x.fdiv 524288+k).fmod 5).toNat=i at h;have C:∀i,i<5->∀j,j<8->((te.getD i default).cps.toList)[j]? = some 39->((te.getD i default).cps.toList)[j+1]? = some 115:=by decide
 have B:∀i,i<5->((te.getD i default).cps.toList).length<=8:=by decide
 intro j D;exact C i h j (gb (cb.mp D).1 (B i h)) D
theorem Ey {x y:Str}{i:Nat}:gi x y i=true↔(x.cps.toList.drop i).take y.cps.toList.length=y.cps.toList:=by
 unfold gi;rw[(beq_iff_eq)];have e:(x.cps.extract i (i+y.length)).toList=(x.cps.toList.drop i).take y.cps.toList.length:=by
  rw[Array.toList_extract,List.extract_eq_take_drop,Nat.add_sub_cancel_left];rfl
 rw[<-e];exact⟨λ h=>congrArg Array.toList h,λ h=>Array.ext' h⟩
theorem MA {p:ee}(P:zq p a b c d n0 N Z)(I:n0≠115/\n0≠39):cL (v0 p) ("'" ++ p.2.1.name) 0 (v0 p).length 1=[4+(pr p.1 0).length]:=by
 have H:("'" ++ p.2.1.name:Str).cps.toList=39::n0::N:=by rw[iz,P.name];rfl
 have J:(v0 p).length=4+(pr p.1 0).length+(2+N.length+1+Z.length):=by
  rw[ku P.codes];simp;lia
 have wD:("'" ++ p.2.1.name:Str).length=2+N.length:=by
  show("'" ++ p.2.1.name:Str).cps.size=_;rw[<-ed,H];simp;lia
 have A:∀i,0<=i->i<0+(4+(pr p.1 0).length)->gi (v0 p) ("'" ++ p.2.1.name) i=false:=by
  intro i _ V
  cases D:gi (v0 p) ("'" ++ p.2.1.name) i with
  |false=>rfl
  |true=>
   apply bd;intro f;rw[Ey,H,P.codes] at D;generalize E:[a,b,c,d]++(pr p.1 0++39::n0::(N++39::Z))=Lc at D;have B:Lc[i]? = some 39:=by
    have:=congrArg (λ l=>l[0]?) D
    simpa [List.getElem?_take,List.getElem?_drop] using this
   have C:Lc[i+1]? = some n0:=by
    have:=congrArg (λ l=>l[1]?) D
    simpa [List.getElem?_take,List.getElem?_drop] using this
   subst E
   by_cases Q:i<4
   .rw[cm (by simpa using Q)] at B;have M:=eX B;obtain⟨R,Y,o3,T,_⟩:x0402:=P.ok;have G:∀z∈XL,z≠39:=by decide
    have U:∀z∈([56,52,97,99,65,67,100,68]:List Nat),z≠39:=by decide
    simp only[aG,e7,or_false] at M
    rcases M with e|e|e|e
    .exact U _ R e.symm
    .exact G _ Y e.symm
    .exact G _ o3 e.symm
    .exact G _ T e.symm
   .rw[fF (by simp;lia)] at B C;simp only[cN,List.length_nil] at B C;rw[cm (by lia)] at B;have L:=Q9 _ _ _ B;have O:=(cb.mp L).1;rw[show i+1 - (0+1+1+1+1)=i - (0+1+1+1+1)+1 by lia,cm O,L] at C;exact I.1 (Option.some.inj C).symm
 have q2:gi (v0 p) ("'" ++ p.2.1.name) (0+(4+(pr p.1 0).length))=true:=by
  rw[(Ey),H,P.codes,lP];have e:([a,b,c,d]++(pr p.1 0++39::n0::(N++39::Z))).drop (4+(pr p.1 0).length)=39::n0::(N++39::Z):=by
   rw[<-eH,vj (by simp;lia),List.drop_of_length_le (by simp;lia),jo]
  rw[e];show 39::n0::(N++39::Z).take N.length=_;rw[vk (aJ _),List.take_length]
 rw[StrLaws.occ_eq,yO (v0 p) ("'" ++ p.2.1.name) (v0 p).length (4+(pr p.1 0).length) 0 _ 0 (aJ _) A q2 (by rw[wD,J];lia) (by rw[J];lia),lP]
theorem GH {x:Str}{i j:Nat}:(Op x i j).cps.toList=(x.cps.toList.drop i).take (j - i):=by unfold Op;rw[List.toList_toArray]
theorem WO {l r:List Nat}{n:Nat}(h:l.length=n):(l++r).take n=l:=by subst h;rw[vk (aJ _),List.take_length]
theorem QP {l r:List Nat}{n:Nat}(h:l.length=n):(l++r).drop n=r:=by subst h;rw[vj (aJ _),List.drop_length,jo]
theorem yU {x:Str}{l r:List Nat}{n:Nat}(B:x.cps.toList=l++r)(h:l.length=n):(Op x n x.length).cps.toList=r:=by
 rw[GH,B,QP h,(ve)];rw[ku B,aP];lia
theorem xA {x:Str}{l r:List Nat}{n:Nat}(B:x.cps.toList=l++r)(h:l.length=n):(Op x 0 n).cps.toList=l:=by
 rw[GH,B,List.drop_zero,Nat.sub_zero,WO h]
section
variable {p:ee}{a b c d n0:Nat}{N Z:List Nat}(P:zq p a b c d n0 N Z)
include P
theorem Xw:(bS (v0 p) (4+(pr p.1 0).length) 0).cps.toList=a::b::c::103::(pr p.1 0++39::n0::(N++39::Z)):=by
 show(Op (v0 p) 0 3 ++ "g" ++ Op (v0 p) 4 (v0 p).length).cps.toList=_;rw[iz,iz,xA (n:=3) (l:=[a,b,c]) (r:=d::(pr p.1 0++39::n0::(N++39::Z))) P.codes rfl,yU (n:=4) (l:=[a,b,c,d]) P.codes rfl]
 rfl
theorem YK:(bS (v0 p) (4+(pr p.1 0).length) 1).cps.toList=100::56::c::d::(pr p.1 0++39::n0::(N++39::Z)):=by
 show("d8" ++ Op (v0 p) 2 (v0 p).length).cps.toList=_;rw[iz,yU (n:=2) (l:=[a,b]) (r:=c::d::(pr p.1 0++39::n0::(N++39::Z))) P.codes rfl]
 rfl
theorem Wc:(bS (v0 p) (4+(pr p.1 0).length) 2).cps.toList=[a,b,c,d]++pr p.1 0++39::1::(n0::N++39::Z):=by
 have e:(v0 p).cps.toList=([a,b,c,d]++pr p.1 0++[39])++(n0::N++39::Z):=by rw[P.codes];simp
 have B:([a,b,c,d]++pr p.1 0++[39]).length=4+(pr p.1 0).length+1:=by simp;lia
 show(Op (v0 p) 0 (4+(pr p.1 0).length+1) ++ "\x01" ++ Op (v0 p) (4+(pr p.1 0).length+1) (v0 p).length).cps.toList=_;rw[iz,iz,xA e B,yU e B];show([a,b,c,d]++pr p.1 0++[39])++[1]++(n0::N++39::Z)=_
 simp
theorem Ur:(bS (v0 p) (4+(pr p.1 0).length) 3).cps.toList=[a,b,c,d]++pr p.1 0++[39,n0]:=by
 have e:(v0 p).cps.toList=([a,b,c,d]++pr p.1 0++[39,n0])++(N++39::Z):=by rw[P.codes];simp
 show(Op (v0 p) 0 (4+(pr p.1 0).length+2)).cps.toList=_;exact xA e (by simp;lia)
theorem P9:(bS (v0 p) (4+(pr p.1 0).length) 4).cps.toList=[a,b,c]:=by
 show(Op (v0 p) 0 3).cps.toList=_;exact xA (n:=3) (l:=[a,b,c]) (r:=d::(pr p.1 0++39::n0::(N++39::Z))) P.codes rfl
theorem Rq:(bS (v0 p) (4+(pr p.1 0).length) 5).cps.toList=pc (kq p.1 p.2.1 p.2.2)++[35,127,10]:=by
 show(v0 p ++ "#\x7f\n").cps.toList=_;rw[iz,z5]
 rfl
end
theorem QL {pre post:List ee}{p:ee}{mark way:Nat}:(iw ((pre++p::post).map v0) pre.length (v0 p) mark way).cps.toList=pc (Ch pre)++(bS (v0 p) mark way).cps.toList++(if way=3\/way=4 then [] else pc (Ch post)):=by
 unfold iw;rw[zB,List.flatMap_append,List.flatMap_append];have e1:((pre++p::post).map v0).take pre.length=pre.map v0:=by
  rw[<-List.map_take,vk (aJ _),List.take_length]
 have e2:((pre++p::post).map v0).drop (pre.length+1)=post.map v0:=by
  rw[<-List.map_drop,<-List.drop_drop,vj (aJ _),List.drop_length];rfl
 rw[e1,e2,Ik];unfold i7
 split
 .simp
 .rw[Ik];simp
noncomputable def mW (pre:List cr)(r:cr)(way:Nat):List cr:=pre++if way=5 then [r] else []
noncomputable def qz (r:cr):RR:=⟨r.oct,some r.name,r.kt⟩
theorem A5 (l:List cr):c0 (l.map qz)=l.map qz:=by
 unfold c0;refine List.filter_eq_self.mpr λ r B=>?_
 obtain⟨q,_,rfl⟩:=aI.mp B
 rfl
theorem Bj (l:List cr):(l.map qz).map RR.pv=l.map cr.pv:=by rw[bz];rfl
theorem y6 {l:List ee}(h:∀p∈l,fR p.2.1.oct):IR [] (Ch l)=(l.map (·.2.1)).map qz:=by
 rw[Ww l [] h,jo,bz];rfl
theorem OX {l:List ee}(h:∀p∈l,fR p.2.1.oct){a b c d:Nat}{s:List Nat}:c0 (IR [] (Ch l++[(.WF a b c d,s)]))=(l.map (·.2.1)).map qz:=by
 unfold IR;rw[List.foldl_append];have:=y6 h;unfold IR at this;rw[this];show c0 ((l.map (·.2.1)).map qz++[⟨_,none,[]⟩])=_;unfold c0;rw[List.filter_append];have:=A5 (l.map (·.2.1));unfold c0 at this;rw[this]
 simp
structure qV (p:ee):Prop where
 mode:fR p.2.1.oct
 name:tw p.2.1.name
 need:∀y∈p.2.1.kt,tw y
 w4:p.2.1.kt.length<=5
theorem Uv (x:Int):∀(B:List Tk) (k:Nat),(hV x k B).length=B.length:=by
 intro C
 induction C with
 |nil=>
  intro _;exact rfl
 |cons _ B D=>
  intro k;exact congrArg (· + 1) (D (k+1))
theorem JN:∀{l:List ee},(∀p∈l,qV p)->(Ch l).length<=l.length * 7:=by
 intro C
 induction C with
 |nil=>
  intro _;exact aJ _
 |cons p l B=>
  intro h;have B:=B λ q D=>h q (.tail _ D)
  have e:Ch (p::l)=kq p.1 p.2.1 p.2.2++Ch l:=by unfold Ch;rw[dz]
  have G:=(h p (.head _)).w4
  rewrite [e,aP,cN]
  unfold kq oO;rw[Uv]
  simp
  lia
theorem Yj {pre post:List ee}{p:ee}{n0 way:Nat}{N:List Nat}{ph:List PO}(G:Top1 w V mg mb)(M:fc ph G)(H:∀q∈pre++p::post,qV q)(L:(pre++p::post).length<=3)(f:p.2.1.name.cps.toList=n0::N)(X:way<6)
  (hx:(iw ((pre++p::post).map v0) pre.length (v0 p) (4+(pr p.1 0).length) way).length<2 ^ 24):
  nb pp w V 6 (G.fn 56) [.str (iw ((pre++p::post).map v0) pre.length (v0 p) (4+(pr p.1 0).length) way)] [] ph ph (.lst [.bool true,.lst ((mW (pre.map (·.2.1)) p.2.1 way).map cr.pv)]):=by
 have I:=H p (nL _ (.head _));have uw:∀q∈pre,qV q:=λ q B=>H q (iI _ B)
 obtain⟨a,b,c,d,Z,P⟩:x212111:=Hy I.mode f;have C:=QL (pre:=pre) (post:=post) (p:=p) (mark:=4+(pr p.1 0).length) (way:=way);generalize iw ((pre++p::post).map v0) pre.length (v0 p) (4+(pr p.1 0).length) way=x at C hx ⊢;have mq:pre.length<=3:=by rw[aP] at L;exact zg L
 have E:∀q∈pre,fR q.2.1.oct:=λ q B=>(uw q B).mode
 have D:∀q∈Ch pre,q.1.OK/\eW q.2:=J0 E λ q B=>⟨(uw q B).name,(uw q B).need⟩
 have Y:(Ch pre).length<=21:=av (JN uw) (lV _ mq);obtain⟨z,o2,o3,o,o5⟩:x0402:=P.ok;have U:=(by decide:∀a∈([56,52,97,99,65,67,100,68]:List Nat),(On (wP a)=false/\a≠35)/\a≠39) a z;have j:39∉n0::N:=f▸I.name.1;have PU:eW (pr p.1 0):=Ib p.1 0;have w8:∀q∈Ch pre++[(Tk.WF a b c d,pr p.1 0)],q.1.OK/\eW q.2:=λ q B=>by
  rcases be.mp B with B|B
  .exact D q B
  .obtain rfl:=aO.mp B;exact⟨P.ok,PU⟩
 have Gb:∀q,(Ch pre++[(Tk.WF a b c d,pr p.1 0)]).head? = some q->jC q.1=true:=λ q B=>by
  cases mB:Ch pre with
  |nil=>rw[mB] at B;cases B;rfl
  |cons r l=>rw[mB] at B;cases B;exact sZ _ (by rw[mB];rfl)
 have Hv:(Ch pre++[(Tk.WF a b c d,pr p.1 0)]).length<=400:=by rw[aP,List.length_singleton];exact fK Y rfl
 have Gw:pc (Ch pre++[(Tk.WF a b c d,pr p.1 0)])=pc (Ch pre)++([a,b,c,d]++pr p.1 0):=by rw[yD];unfold pc;simp[Tk.code]
 have Q:((c0 (IR [] (Ch pre))).map RR.pv)=(pre.map (·.2.1)).map cr.pv:=by rw[y6 E,A5,Bj]
 have g:((c0 (IR [] (Ch pre++[(Tk.WF a b c d,pr p.1 0)]))).map RR.pv)=(pre.map (·.2.1)).map cr.pv:=by rw[OX E,Bj]
 have O:∀way,way≠5->mW (pre.map (·.2.1)) p.2.1 way=pre.map (·.2.1):=λ way h=>by unfold mW;rw[if_neg h,nC]
 have:=(by decide:∀i,i<6->i=0\/i=1\/i=2\/i=3\/i=4\/i=5) way X
 rcases this with rfl|rfl|rfl|rfl|rfl|rfl
 .rw[Xw P] at C;rw[O 0 (by decide),<-Q];exact QK (a:=a) (b:=b) (c:=c) (post:=pr p.1 0++39::n0::(N++39::Z)++pc (Ch post)) G M hx D sZ (ww Y rfl) (by rw[C];simp) U.1 U.2
 .rw[YK P] at C;rw[O 1 (by decide),<-Q];exact Md (c:=c) (d:=d) (post:=pr p.1 0++39::n0::(N++39::Z)++pc (Ch post)) G M hx D sZ (ww Y rfl) (by rw[C];simp) o3 o
 .rw[Wc P] at C;rw[O 2 (by decide),<-g];exact Tz (y:=n0::N) (post:=Z++pc (Ch post)) G M hx w8 Gb Hv (by rw[C,Gw];simp) j
 .rw[Ur P] at C;rw[O 3 (by decide),<-g];exact U6 (c:=n0) G M hx w8 Gb Hv (by rw[C,Gw];simp) (λ e=>j (e▸.head _))
 .rw[P9 P] at C;rw[O 4 (by decide),<-Q];exact PL (a:=a) (b:=b) (c:=c) G M hx D sZ (ww Y rfl) (by rw[C];simp) U.1 U.2
 .rw[Rq P] at C;have T:∀q∈pre++[p],qV q:=λ q B=>(be.mp B).elim (uw q) λ e=>aO.mp e▸I
  have oS:∀q∈pre++[p],fR q.2.1.oct:=λ q B=>(T q B).mode
  have A:Ch (pre++[p])=Ch pre++kq p.1 p.2.1 p.2.2:=by unfold Ch;rw[List.flatMap_append];simp
  have J:Ch (pre++[p])≠[]:=by
   rw[A];exact List.append_ne_nil_of_right_ne_nil _ (pq _ _)
  have AS:∀q∈Ch (pre++[p]),q.1.OK/\eW q.2:=J0 oS λ q B=>⟨(T q B).name,(T q B).need⟩
  have Ak:(Ch (pre++[p])).length<=28:=av (JN T) (by simp;lia);have BD:=sZ (l:=pre++[p]);have u:((c0 (IR [] (Ch (pre++[p])))).map RR.pv)=(mW (pre.map (·.2.1)) p.2.1 5).map cr.pv:=by
   rw[y6 oS,A5,Bj,aY];rfl
  rw[<-u];have m:x.cps.toList=pc (Ch (pre++[p]))++35::127::10::pc (Ch post):=by rw[C,A,yD];simp
  generalize Ch (pre++[p])=l at J AS Ak BD m ⊢;obtain⟨k,R,s,rfl⟩:∃k R s,l=k++[(R,s)]:=⟨l.dropLast,(l.getLast J).1,(l.getLast J).2,(List.dropLast_concat_getLast J).symm⟩;have oH:=AS (R,s) (nL _ (.head _));refine Pr (t:=R) (sep:=s) (post:=pc (Ch post)) G M hx (λ q B=>AS q (iI _ B)) (λ q B=>BD q ?_) (by rw[aP] at Ak;exact ia Ak rfl) ?_ oH.1 oH.2 λ e=>?_
  .rw[List.head?_append,B];rfl
  .rw[m,yD];unfold pc;simp
  .subst e;exact BD (R,s) rfl
noncomputable def qS:List Int:=[67509,544400,1101822]
noncomputable def numsOf (sc:List Int):List Int:=sc.take 3++qS.drop (sc.take 3).length
theorem Hh (sc:List Int):(numsOf sc).length=3:=by
 unfold numsOf qS
 simp
 lia
noncomputable def cv (ns:List Int)(k:Nat):cr:=⟨wj (ns.getD k 0),TW.getD k default,kN (ns.getD k 0)⟩
noncomputable def dV (ns:List Int)(k:Nat):ee:=(ns.getD k 0,cv ns k,k==1)
noncomputable def fp (ns:List Int):List ee:=(bj 3).map (dV ns)
noncomputable def xL (ns:List Int):List cr:=(bj 3).map (cv ns)
noncomputable def texts (ns:List Int):List Str:=(fp ns).map v0
theorem RY (ns:List Int):gM ns 3=(xL ns).map cr.pv:=by
 unfold gM xL;rw[bz];rfl
theorem Xr (ns:List Int):(fp ns).map (·.2.1)=xL ns:=by unfold fp xL;rewrite [bz];rfl
theorem sQ (ns:List Int){k:Nat}(h:k<3):(cv ns k).name∈TW:=(by decide:∀k,k<3->TW.getD k default∈TW) k h
theorem GF (ns:List Int){k:Nat}(h:k<3):qV (dV ns k):=
 ⟨HV _,(jZ _ (sQ ns h)).1,λ y B=>(jZ _ (wW B)).1,w9 _⟩
theorem W4 {ns:List Int}:∀q∈fp ns,qV q:=λ q B=>by
 obtain⟨k,C,rfl⟩:=aI.mp B;exact GF ns (ke.mp C)
theorem Sk (ns:List Int){l:List cr}(H:l.length<=3)(h:∀r∈l,r∈xL ns):fL l:=by
 have C:∀r∈l,∃k,k<3/\r=cv ns k:=λ r B=>by
  obtain⟨k,D,rfl⟩:=aI.mp (h r B);exact⟨k,ke.mp D,rfl⟩
 refine⟨H,λ r B=>?_,λ r B=>?_,λ r B=>?_,λ r B=>?_⟩
 .obtain⟨k,D,rfl⟩:=C r B;exact HV _
 .obtain⟨k,D,rfl⟩:=C r B;exact sQ ns D
 .obtain⟨k,D,rfl⟩:=C r B;exact λ y G=>wW G
 .obtain⟨k,D,rfl⟩:=C r B;exact w9 _
theorem Hx {ns:List Int}{k:Nat}(h:k<3):(v0 (dV ns k)).length<=1000:=by
 have pV:∀y∈(cv ns k).name::(cv ns k).kt,y.length<=20:=λ y B=>by
  rcases aG.mp B with rfl|B
  .exact av (jZ _ (sQ ns h)).2.2 (by decide)
  .exact av (jZ _ (wW B)).2.2 (by decide)
 have C:=J6 (x:=ns.getD k 0) (Ea (o:=(cv ns k).oct) (great:=k==1) pV) (fC (cv ns k).oct (cv ns k).name (cv ns k).kt (k==1)).length;have D:(fC (cv ns k).oct (cv ns k).name (cv ns k).kt (k==1)).length<=7:=by
  unfold fC;rw[cN,aE,cN];exact lU (lU (w9 _) 1) 1
 exact av C (av (Nat.mul_le_mul_left 108 D) (by decide))
theorem zH {ns:List Int}:∀y∈texts ns,y.length<=1000:=λ y C=>by
 obtain⟨q,D,rfl⟩:=aI.mp C;obtain⟨k,B,rfl⟩:=aI.mp D;exact Hx (ke.mp B)
theorem Mo {α:Type}{l:List α}{k:Nat}{x:α}(h:l[k]? = some x):l=l.take k++x::l.drop (k+1):=by
 obtain⟨B,rfl⟩:=cb.mp h;rw[<-uS B,List.take_append_drop]
theorem EK (ns:List Int){k:Nat}(h:k<3):(fp ns)[k]? = some (dV ns k):=by unfold fp;rw[cM,List.getElem?_range h];rfl
theorem IS (ns:List Int){k:Nat}(h:k<3):(xL ns)[k]? = some (cv ns k):=by unfold xL;rw[cM,List.getElem?_range h];rfl
theorem MV (ns:List Int){k:Nat}(h:k<3):(texts ns)[k]? = some (v0 (dV ns k)):=by unfold texts;rw[cM,EK ns h];rfl
noncomputable def mz (ns:List Int)(place:Nat):Nat:=4+(pr (ns.getD place 0) 0).length
noncomputable def xl (ns:List Int)(place way:Nat):Str:=iw (texts ns) place (v0 (dV ns place)) (mz ns place) way
noncomputable def jL (ns:List Int)(place way:Nat):List cr:=mW ((xL ns).take place) (cv ns place) way
theorem DS (k:Nat)(h:k<3):∃n0 N,(TW.getD k default).cps.toList=n0::N/\n0≠115/\n0≠39:=by
 have:=(by decide:∀k,k<3->(TW.getD k default).cps.toList≠[]/\(TW.getD k default).cps.toList.headD 0≠115/\(TW.getD k default).cps.toList.headD 0≠39) k h
 cases e:(TW.getD k default).cps.toList with
 |nil=>exact absurd e this.1
 |cons a l=>rw[e] at this;exact⟨a,l,rfl,this.2⟩
theorem Vs (ns:List Int){place:Nat}(h:place<3):cL (v0 (dV ns place)) ("'" ++ (cv ns place).name) 0 (v0 (dV ns place)).length 1=[mz ns place]/\mz ns place+2<=(v0 (dV ns place)).length/\4<=(v0 (dV ns place)).length:=by
 obtain⟨D,N,e,C⟩:=DS place h;obtain⟨a,b,c,d,Z,P⟩:x212111:=Hy (p:=dV ns place) (GF ns h).mode e;have B:=ku P.codes;refine⟨MA P C,?_,?_⟩
 .rw[B];show 4+(pr (dV ns place).1 0).length+2<=_;simp;lia
 .rw[B];simp
theorem XW (ns:List Int){place way:Nat}(h:place<3):(xl ns place way).length<2 ^ 24:=by
 have pP:=Gp (t:=v0 (dV ns place)) (mark:=mz ns place) way;have D:=Hx (ns:=ns) h;have A8:=IB (m:=2003) (l:=(texts ns).take place++[bS (v0 (dV ns place)) (mz ns place) way]++i7 ((texts ns).drop (place+1)) way) λ y B=>by
  rcases be.mp B with B|B
  .rcases be.mp B with B|B
   .exact av (zH y (List.mem_of_mem_take B)) (by decide)
   .obtain rfl:=aO.mp B;lia
  .unfold i7 at B
   split at B
   .cases B
   .exact av (zH y (List.mem_of_mem_drop B)) (by decide)
 have Np:(texts ns).length=3:=by unfold texts fp;simp
 have ft:(i7 ((texts ns).drop (place+1)) way).length<=3:=by
  unfold i7;split
  .exact eJ _
  .rw[List.length_drop];lia
 have C:((texts ns).take place++[bS (v0 (dV ns place)) (mz ns place) way]++i7 ((texts ns).drop (place+1)) way).length<=7:=by
  rw[aP,aP,List.length_singleton,List.length_take];lia
 have:=av A8 (lV 2003 C);unfold xl iw;rw[BY]
 lia
theorem TF {ns:List Int}{place way:Nat}{ph:List PO}(G:Top1 w V mg mb)(J:fc ph G)(B:place<3)(L:way<6):
  nb pp w V 6 (G.fn 56) [.str (xl ns place way)] [] ph ph (.lst [.bool true,.lst ((jL ns place way).map cr.pv)]):=by
 obtain⟨H,N,e,O⟩:=DS place B;have C:=Mo (EK ns B);have M:(fp ns).length=3:=by unfold fp;simp
 have mq:((fp ns).take place).length=place:=by rw[List.length_take];lia
 have D:=XW ns (way:=way) B;unfold xl texts at D ⊢;unfold mz at D ⊢;have:=Yj (pre:=(fp ns).take place) (post:=(fp ns).drop (place+1)) (p:=dV ns place) (n0:=H) (N:=N) (way:=way) (ph:=ph) G J (C▸W4) (by rw[<-C,M];exact aJ _) e L;rw[<-C,mq] at this;have e2:mW (((fp ns).take place).map (·.2.1)) (dV ns place).2.1 way=jL ns place way:=by
  unfold jL;rw[List.map_take,Xr];rfl
 rw[e2] at this;exact this D
noncomputable def Td:aF:=KT (gl (ay (sA 58)) 1) 0
noncomputable def tL:aF:=sub (sub Td 0) 1
noncomputable def PK:aF:=sub tL 0
noncomputable def Xe:aF:=sub (sub tL 1) 0
noncomputable def RL:Pos:=(sub tL 1).pos
noncomputable def Yr:Pos:=tL.pos
noncomputable def jd (sc:List Int):Nat:=((1+(sc.take 3).sum).fmod 3).toNat
theorem Nb (sc:List Int):(1+(sc.take 3).sum).fmod 3=(jd sc:Int)/\jd sc<3:=by
 have C:=lX (1+(sc.take 3).sum) (show(0:Int)<3 by decide);have B:=nK (1+(sc.take 3).sum) (show(0:Int)<3 by decide);unfold jd;generalize (1+(sc.take 3).sum).fmod 3=z at C B ⊢;exact⟨by lia,by lia⟩
theorem GX {ns:List Int}{place way:Nat}(B:place<3):(jL ns place way).length<=3/\∀r∈jL ns place way,r∈xL ns:=by
 have D:(xL ns).length=3:=by unfold xL;simp
 unfold jL mW;refine⟨?_,λ r C=>?_⟩
 .rw[aP,List.length_take]
  split
  .rw[List.length_singleton];lia
  .rw[List.length_nil];lia
 .rcases be.mp C with h|h
  .exact List.mem_of_mem_take h
  .split at h
   .obtain rfl:=aO.mp h;exact eX (IS ns B)
   .cases h
theorem P4 {n:Nat}{R:List cr}:PV.lt n (.lst (R.map cr.pv)):=uh (f:=cr.pv) λ r=>And.intro trivial (And.intro trivial (And.intro fe trivial))
section
theorem SO {value:aF}{lower upper:Option aF}{p pos:Pos}{T id:String}{Q:Value->ae->Prop}{E:Value->ae->Prop}{s:ae}
  (J:typeLookup (.type T) "__getitem__"=aq (some (.builtin id)))
  (h:ag (af pg w) A (eval value ew) (λ o s₁=>ag (af pg w) A (eval (.Slice lower upper none p) ew) (λ i s₂=>s₂.TypeIs o T/\ag (af pg w) A (getItem o i) Q E s₂) E s₁) E s):
  ag (af pg w) A (eval (.Subscript value (.Slice lower upper none p) pos) ew) Q E s:=by
 rw[eval_Subscript];refine aa (eY h (λ o s₁ D=>aa (aQ (eY D (λ i s₂ B=>aa (a9 ?_)) λ _ _ x=>x))) λ _ _ x=>x);have H:ag (af pg w) A (operate [i,o] (getItem o i)) (λ r C=>ag (af pg w) A (letTemporaryGo value o r >>= λ _=>aq r) Q E C) E s₂:=
  wpAny_operating (eY B.2 (λ r C G=>aa (wpAny_letTemporaryGo (ah G))) λ _ _ x=>x)
 refine aa ?_;rw[getitemInPython_of_ne B.1.not_modules];refine aa (wpAny_specialOf B.1 J ?_);exact ah (aa H)
theorem EJ.Mr {lo}(h1:EJ pg w V A ew value st al (.lst xs))(j:PJ pg w V A ew lower al bi lo)(h3:PJ pg w V A ew upper bi lv hi)(G:xs.length<=aH):
  EJ pg w V A ew (.Subscript value (.Slice lower upper none p) pos) st lv (.lst (fA xs lo hi)):=λ I ρ s Q E k q=>by
 refine SO (T:="list") list_getitem_lookup (h1 _ _ _ _ _ k λ I1 ρ1 s1 u c Z f d1 hu=>wpAny_Slice (j _ _ _ _ _ f λ I2 N s2 vl C H X g U=>h3 _ _ _ _ _ X λ I3 R s3 vu B J L d hh=>?_));apply bd;intro nk;obtain⟨l,el,z⟩:=U;obtain⟨m,o,O⟩:=hh;obtain⟨a,D,n,rfl,e,r⟩:=hu.inv;obtain⟨its,lo,hi,_,M,hs,Y,y,hQ⟩:x3304:=BF L (L.inv.lw _ _ (B _ _ (C _ _ e))) (r.mono (C.trans B) (H.trans J)) G el z o O (q.at ((c.trans C).trans B) ((Z.trans H).trans J) (d.trans (g.trans d1)));apply nk;rw[evalPart_none];exact ah ⟨(M.push _).typeIs,wpAny_getItem_list_slice (M.push _) (Heap.IsSliceOf.new ..) Y y .none (by simp) (by rw[Heap.size_push];exact hQ) hs⟩
theorem rc.Al {n:Nat}(h:n<2 ^ 62):rc pg w V A ew (.eh 0 n) st ((bj n).map λ j:Nat=>.int j) (λ _=>True):=by
 rw[<-yZ];exact rc.eh (a:=0) (b:=(n:Int)) (by decide) (by lia) (by lia)
section
variable {fd:aU}{L f:Addr}{ph:List PO}{fs:List (Addr×Data)}
noncomputable def l3 (ns:List Int)(p:Nat):List (Str×PV):=[("records",.lst ((xL ns).map cr.pv)),("place",.int p),("numbers",.lst (ns.map .int))]
noncomputable def jK (ns:List Int)(p:Nat):List PV:=(bj 6).map λ way=>.lst ((jL ns p way).map cr.pv)
noncomputable def lT (ns:List Int)(p:Nat):List (Str×PV):=("texts",.lst ((texts ns).map .str))::l3 ns p
noncomputable def lA (ns:List Int)(p:Nat):List (Str×PV):=("ahead",.lst (jK ns p))::lT ns p
noncomputable def Hw:Scope:={kind:=e8,names:=[(".0",NameKind.local),("k",NameKind.local),("_law_words",NameKind.globalImplicit),("numbers",dN),("records",dN)],isGenerator:=false,isCoroutine:=false}
noncomputable def FE:Scope:={kind:=e8,names:=[(".0",NameKind.local),("way",NameKind.local),("place",dN),("records",dN)],isGenerator:=false,isCoroutine:=false}
noncomputable def Mh:Scope:={kind:=e8,names:=[(".0",NameKind.local),("way",NameKind.local),("_law_right",NameKind.globalImplicit),("_law_spoilt",NameKind.globalImplicit),("ahead",dN),("place",dN),("records",dN),("texts",dN)],isGenerator:=false,isCoroutine:=false}
theorem Zd {ns:List Int}(B:ns.length=3){j:Nat}(C:j<3):(ns.map PV.int)[j]? = some (.int (ns.getD j 0)):=by
 rw[cM,rL,dc (by lia)];rfl
theorem y4 (ns:List Int){j:Nat}(B:j<3):((xL ns).map cr.pv)[j]? = some (cv ns j).pv:=by rw[cM,IS ns B];rfl
theorem MJ {ns:List Int}{p:Nat}(T:ns.length=3)(G:Top1 w V mg mb)(R:wn A 1)(C:Uf A (callEnvC (gt fd (sA 58)) L f) fs)(K:ut (callEnvC (gt fd (sA 58)) L f)):
  SJ pp w V A (callEnvC (gt fd (sA 58)) L f) (gl (ay (sA 58)) 3) ⟨l3 ns p,ph,fs⟩ ⟨lT ns p,ph,fs⟩ .next:=by
 obtain⟨o,Ok,At⟩:=(G.d 51).fn.at_;have N:az (callEnvC (gt fd (sA 58)) L f) "texts":=.inr ⟨rfl,rfl,rfl⟩;refine SJ.assign K N (EJ.listcomp (scope:=Hw) (al:=⟨l3 ns p,ph,fs⟩) (cl:=[("records",L+1+1+1),("numbers",L+1)]) (ys:=(texts ns).map .str) (ge:=[("numbers",.lst (ns.map .int)),("records",.lst ((xL ns).map cr.pv))]) (ln:=[("numbers",.lst (ns.map .int)),("records",.lst ((xL ns).map cr.pv))]) R.handled (P3.of rfl rfl rfl rfl (.cons rfl (.cons rfl .nil)) (.cons ⟨rfl,.inl rfl,.inl rfl⟩ (.cons ⟨rfl,.inl rfl,.inl rfl⟩ .nil))) (EJ.fk (EJ.builtin (x:="range") G K (λ _ _=>.typ _) rfl) (am.cons EJ.ci am.nil) ds.ko) (rc.Al (n:=3) (by decide)) ?_ fe);intro M d Y;unfold texts fp
 rewrite [bz,bz]
 refine wf.all (λ _=>trivial) (by rw[ak];decide) λ k D=>?_
 have D:=ke.mp D;have B:=K.comp (scope:=Hw) (cl:=[("records",L+1+1+1),("numbers",L+1)]) (C:=M) rfl;refine Fr.nS B (.inl rfl) (aw.cons rfl (aw.cons rfl .nil)) λ H=>?_
 have O:((k:Int)==1)=(k==1):=(by decide:∀k:Nat,k<3->((k:Int)==1)=(k==1)) k D;have J:=NX (x:=ns.getD k 0) (o:=(cv ns k).oct) (name:=(cv ns k).name) (kt:=(cv ns k).kt) (great:=k==1) (ph:=ph++[.list H]) G (av (jZ _ (sQ ns D)).2.2 (by decide)) (λ y U=>av (jZ _ (wW U)).2.2 (by decide)) (av (w9 (ns.getD k 0)) (by decide));exact EJ.bq (bi:=⟨("k",.int k)::[("numbers",.lst (ns.map .int)),("records",.lst ((xL ns).map cr.pv))],ph++[.list H],(L,d)::fs⟩) (EJ.top G B 51 rfl rfl) Ok At (am.cons (EJ.sub (EJ.cell rfl rfl rfl B) (EJ.loc rfl rfl B) (GJ.iQ (Zd T D) (by lia))) (am.cons (EJ.sub (EJ.cell rfl rfl rfl B) (EJ.loc rfl rfl B) (GJ.iQ (y4 ns D) (by lia))) (am.cons (EJ.val _ (EJ.li (EJ.loc rfl rfl B) EJ.ci CJ.eq_int) (by rw[O])) am.nil))) J R (C.inner Y)
theorem Wi {ns:List Int}{p:Nat}(U:p<3)(G:Top1 w V mg mb)(O:A.handled=none)(K:ut (callEnvC (gt fd (sA 58)) L f)):
  SJ pp w V A (callEnvC (gt fd (sA 58)) L f) (gl (ay (sA 58)) 4) ⟨lT ns p,ph,fs⟩ ⟨lA ns p,ph,fs⟩ .next:=by
 have M:az (callEnvC (gt fd (sA 58)) L f) "ahead":=.inr ⟨rfl,rfl,rfl⟩;refine SJ.assign K M (EJ.listcomp (scope:=FE) (al:=⟨lT ns p,ph,fs⟩) (cl:=[("records",L+1+1+1),("place",L+1+1)]) (ys:=jK ns p) (ge:=[("place",.int p),("records",.lst ((xL ns).map cr.pv))]) (ln:=[("place",.int p),("records",.lst ((xL ns).map cr.pv))]) O (P3.of rfl rfl rfl rfl (.cons rfl (.cons rfl .nil)) (.cons ⟨rfl,.inl rfl,.inl rfl⟩ (.cons ⟨rfl,.inl rfl,.inl rfl⟩ .nil))) (EJ.fk (EJ.builtin (x:="range") G K (λ _ _=>.typ _) rfl) (am.cons EJ.ci am.nil) ds.ko) (rc.Al (n:=6) (by decide)) ?_ (uh λ B=>P4));intro J d Y;unfold jK;refine wf.all (λ _=>trivial) (by rw[ak];decide) λ B N=>?_
 have D:=K.comp (scope:=FE) (cl:=[("records",L+1+1+1),("place",L+1+1)]) (C:=J) rfl;refine Fr.nS D (.inl rfl) (aw.cons rfl (aw.cons rfl .nil)) λ T=>?_
 have H:((xL ns).map cr.pv).length=3:=by unfold xL;simp
 have R:((B:Int)==5)=(B==5):=(by decide:∀k:Nat,k<6->((k:Int)==5)=(k==5)) B (ke.mp N);have e:(jL ns p B).map cr.pv=((xL ns).map cr.pv).take p++(if B==5 then [(cv ns p).pv] else []):=by
  unfold jL mW;rw[aY,List.map_take]
  by_cases h:B=5
  .rw[if_pos h,if_pos (beq_iff_eq.mpr h)];rfl
  .rw[if_neg h,if_neg (λ q=>h (beq_iff_eq.mp q))];rfl
 rw[e];refine EJ.bin (EJ.val (.lst (((xL ns).map cr.pv).take p)) (EJ.rk (EJ.cell rfl rfl rfl D) PJ.none (PJ.some (EJ.cell rfl rfl rfl D)) (by rw[H,ak];decide)) (by rw[AN])) (EJ.fq (b:=B==5) (R▸TJ.li (EJ.loc rfl rfl D) EJ.ci CJ.eq_int) ?_) (BJ.eg ?_)
 .cases B==5 with
  |true=>exact EJ.list (am.cons (EJ.sub (EJ.cell rfl rfl rfl D) (EJ.cell rfl rfl rfl D) (GJ.iQ (y4 ns U) (by lia))) am.nil) (by rw[ak];show 1<=_;decide)
  |false=>exact EJ.list am.nil (eJ _)
 .rw[List.length_take,H,ak]
  split<;>simp<;>lia
theorem NF {ns:List Int}{p:Nat}(H:p<3)(G:i0 w V mg mb)(T:fc ph G.toTop1)(R:wn A 7)(C:Uf A (callEnvC (gt fd (sA 58)) L f) fs)(K:ut (callEnvC (gt fd (sA 58)) L f)):
  SJ pp w V A (callEnvC (gt fd (sA 58)) L f) (gl (ay (sA 58)) 5) ⟨lA ns p,ph,fs⟩ ⟨lA ns p,ph,fs⟩ (.ret (.bool true)):=by
 obtain⟨c,tq,s8⟩:=(G.d 55).fn.at_;obtain⟨k,n4,oR⟩:=(G.d 57).fn.at_;have Q:A.units+64<cLine:=R.u 64;have I:EJ pp w V A (callEnvC (gt fd (sA 58)) L f) (sub (KT (gl (ay (sA 58)) 5) 0) 0) ⟨lA ns p,ph,fs⟩ ⟨lA ns p,ph,fs⟩ (.lst []):=by
  refine EJ.listcomp (cl:=[("texts",L+1+1+1+1),("records",L+1+1+1),("place",L+1+1),("ahead",L+1+1+1+1+1)]) (ys:=[]) (ge:=[("ahead",.lst (jK ns p)),("place",.int p),("records",.lst ((xL ns).map cr.pv)),("texts",.lst ((texts ns).map .str))]) (ln:=[("ahead",.lst (jK ns p)),("place",.int p),("records",.lst ((xL ns).map cr.pv)),("texts",.lst ((texts ns).map .str))]) R.handled (P3.of rfl rfl rfl rfl (.cons rfl (.cons rfl (.cons rfl (.cons rfl .nil)))) (.cons ⟨rfl,.inl rfl,.inl rfl⟩ (.cons ⟨rfl,.inl rfl,.inl rfl⟩ (.cons ⟨rfl,.inl rfl,.inl rfl⟩ (.cons ⟨rfl,.inl rfl,.inl rfl⟩ .nil))))) (EJ.fk (EJ.builtin G.toTop1 K (λ _ _=>.typ _) rfl) (am.cons EJ.ci am.nil) ds.ko) (rc.Al (n:=6) (by decide)) ?_ trivial;intro Y d O;refine wf.rows (g:=λ j:Nat=>.int j) (λ _=>false) (λ _=>trivial) (by rw[ak];decide) λ B M=>?_
  have M:=ke.mp M;have D:=K.comp (scope:=Mh) (cl:=[("texts",L+1+1+1+1),("records",L+1+1+1),("place",L+1+1),("ahead",L+1+1+1+1+1)]) (C:=Y) rfl;refine Fr.qU D (.inl rfl) (aw.cons rfl (aw.cons rfl (aw.cons rfl (aw.cons rfl .nil)))) λ J=>⟨?_,EJ.loc rfl rfl D⟩
  have Yq:fc (ph++[PO.list J]) G.toTop1:=T.imp λ n h=>il _ _ _ _ h
  have N:=Vs ns H;have U:=Un (place:=p) (way:=B) (mark:=mz ns p) (name:=(cv ns p).name) (t:=v0 (dV ns p)) (ph:=ph++[PO.list J]) G.toTop1 (MV ns H) N.1 N.2.1 N.2.2 (by unfold texts fp;simp) zH (av (jZ _ (sQ ns H)).2.2 (by decide)) M;have Z:=NV G (Sk ns (GX (way:=B) H).1 (GX H).2) (TF (ns:=ns) (place:=p) (way:=B) G.toTop1 Yq H M);have E:(jK ns p)[B]? = some (.lst ((jL ns p B).map cr.pv)):=by unfold jK;rw[cM,List.getElem?_range M];rfl
  refine TJ.not (b:=true) (TJ.val (EJ.bq (bi:=⟨("way",.int B)::[("ahead",.lst (jK ns p)),("place",.int p),("records",.lst ((xL ns).map cr.pv)),("texts",.lst ((texts ns).map .str))],ph++[.list J],(L,d)::fs⟩) (EJ.top G.toTop1 D 57 rfl rfl) n4 oR (am.cons (al:=⟨("way",.int B)::[("ahead",.lst (jK ns p)),("place",.int p),("records",.lst ((xL ns).map cr.pv)),("texts",.lst ((texts ns).map .str))],ph++[.list J],(L,d)::fs⟩) ?_ (am.cons ?_ am.nil)) Z R (C.inner O)) VT.bool)
  .exact EJ.bq (bi:=⟨("way",.int B)::[("ahead",.lst (jK ns p)),("place",.int p),("records",.lst ((xL ns).map cr.pv)),("texts",.lst ((texts ns).map .str))],ph++[.list J],(L,d)::fs⟩) (EJ.top G.toTop1 D 55 rfl rfl) tq s8 (am.cons (EJ.cell rfl rfl rfl D) (am.cons (EJ.cell rfl rfl rfl D) (am.cons (EJ.loc rfl rfl D) (am.cons (EJ.sub (EJ.sub (EJ.cell rfl rfl rfl D) (EJ.cell rfl rfl rfl D) (GJ.iQ (y4 ns H) (by lia))) EJ.ci (GJ.lst (by decide) (by decide) rfl)) am.nil)))) U (R.mono (by decide)) (C.inner O)
  .exact EJ.sub (EJ.cell rfl rfl rfl D) (EJ.loc rfl rfl D) (GJ.iQ E (by lia))
 exact SJ.ret (EJ.li I (EJ.list am.nil (by rw[ak];decide)) (CJ.eq_data Q rfl rfl rfl rfl))
end
end
theorem MT {sc:List Int}{ph:List PO}(G:i0 w V mg mb)(J:fc ph G.toTop1)(H:sc.length<=63)(R:wn A 7)(C:Ctx A (callEnvC (G.fd 58) L (G.fn 58)) fs):XJ pp w V A (callEnvC (G.fd 58) L (G.fn 58)) (ay (sA 58)) ⟨[("script",.lst (sc.map .int))],ph,fs⟩ ⟨[],ph,fs⟩ (.ret (.bool true)):=by
 have D:=G.d 58;rw[D.gz] at C ⊢;have K:=D.hK (L:=L);generalize At:G.fd 58=fd at K C ⊢;generalize jX:G.fn 58=f at K C ⊢;have T:az (callEnvC (gt fd (sA 58)) L f) "numbers":=.inr ⟨rfl,rfl,rfl⟩;have Y:az (callEnvC (gt fd (sA 58)) L f) "place":=.inr ⟨rfl,rfl,rfl⟩;have Z:az (callEnvC (gt fd (sA 58)) L f) "records":=.inr ⟨rfl,rfl,rfl⟩;have B:(sc.take 3).length<=3:=by rw[List.length_take];lia
 obtain⟨a,tq,s8⟩:=(G.d 50).fn.at_;obtain⟨O,E4⟩:x02:=Nb sc;have I:SJ pp w V A (callEnvC (gt fd (sA 58)) L f) (gl (ay (sA 58)) 0) ⟨[("script",.lst (sc.map .int))],ph,fs⟩ ⟨[("cut",.lst ((sc.take 3).map .int)),("script",.lst (sc.map .int))],ph,fs⟩ .next:=
  SJ.assign K (.inl rfl) (EJ.val (.lst ((sc.take 3).map .int)) (EJ.rk (EJ.loc rfl rfl K) PJ.none (PJ.some EJ.ci) (by rw[aE,ak];exact ww H rfl)) (by rw[List.map_take];exact congrArg PV.lst AN))
 have E:EJ pp w V A (callEnvC (gt fd (sA 58)) L f) tL ⟨[("cut",.lst ((sc.take 3).map .int)),("script",.lst (sc.map .int))],ph,fs⟩ ⟨[("cut",.lst ((sc.take 3).map .int)),("script",.lst (sc.map .int))],ph,fs⟩ (.lst ((qS.map PV.int).drop (sc.take 3).length)):=by
  have N:EJ pp w V A (callEnvC (gt fd (sA 58)) L f) PK ⟨[("cut",.lst ((sc.take 3).map .int)),("script",.lst (sc.map .int))],ph,fs⟩ ⟨[("cut",.lst ((sc.take 3).map .int)),("script",.lst (sc.map .int))],ph,fs⟩ (.lst (qS.map PV.int)):=EJ.list (am.cons EJ.ci (am.cons EJ.ci (am.cons EJ.ci am.nil))) (by show 3<=aH;rw[ak];decide);have M:EJ pp w V A (callEnvC (gt fd (sA 58)) L f) Xe ⟨[("cut",.lst ((sc.take 3).map .int)),("script",.lst (sc.map .int))],ph,fs⟩ ⟨[("cut",.lst ((sc.take 3).map .int)),("script",.lst (sc.map .int))],ph,fs⟩ (.int ((((sc.take 3).map PV.int).length:Nat):Int)):=EJ.bY (EJ.builtin G.toTop1 K (λ _ _=>.blt _) rfl) (am.cons (EJ.loc rfl rfl K) am.nil) (ds.sJ (by rw[aE];exact fK B rfl));have:=EJ.Mr (p:=RL) (pos:=Yr) N (PJ.some M) PJ.none (by show 3<=aH;rw[ak];decide);rw[D8 (by rw[aE,aE];exact B),aE] at this;exact this
 have Q:SJ pp w V A (callEnvC (gt fd (sA 58)) L f) (gl (ay (sA 58)) 1) ⟨[("cut",.lst ((sc.take 3).map .int)),("script",.lst (sc.map .int))],ph,fs⟩ ⟨[("place",.int (jd sc)),("numbers",.lst ((numsOf sc).map .int)),("cut",.lst ((sc.take 3).map .int)),("script",.lst (sc.map .int))],ph,fs⟩ .next:=by
  refine SJ.assign_tuple (al:=⟨[("cut",.lst ((sc.take 3).map .int)),("script",.lst (sc.map .int))],ph,fs⟩) (v:=.tup [.lst ((numsOf sc).map .int),.int (jd sc)]) (EJ.tuple (am.cons (al:=⟨[("cut",.lst ((sc.take 3).map .int)),("script",.lst (sc.map .int))],ph,fs⟩) ?_ (am.cons ?_ am.nil)) (by rw[ak];show 2<=_;decide)) (AJ.kE R.handled (.cons (AJ.name K T) (.cons (AJ.name K Y) .nil rfl) rfl))
  .refine EJ.val _ (EJ.bin (EJ.loc rfl rfl K) E (BJ.eg (xs:=(sc.take 3).map PV.int) (ys:=(qS.map PV.int).drop (sc.take 3).length) ?_)) ?_
   .rw[ak,aE,List.length_drop,aE];have:qS.length=3:=rfl;lia
   .unfold numsOf;rw[aY,List.map_drop]
  .exact EJ.val _ (EJ.bin (EJ.bin EJ.ci (EJ.bY (EJ.builtin G.toTop1 K (λ _ _=>.blt _) rfl) (am.cons (EJ.loc rfl rfl K) am.nil) (ds.sum (ns:=sc.take 3) R.handled)) BJ.add_int) EJ.ci (BJ.mod_int (by decide))) (congrArg PV.int O)
 have U:SJ pp w V A (callEnvC (gt fd (sA 58)) L f) (gl (ay (sA 58)) 2) ⟨[("place",.int (jd sc)),("numbers",.lst ((numsOf sc).map .int)),("cut",.lst ((sc.take 3).map .int)),("script",.lst (sc.map .int))],ph,fs⟩ ⟨("records",.lst ((xL (numsOf sc)).map cr.pv))::[("place",.int (jd sc)),("numbers",.lst ((numsOf sc).map .int)),("cut",.lst ((sc.take 3).map .int)),("script",.lst (sc.map .int))],ph,fs⟩ .next:=
  SJ.assign (v:=.lst ((xL (numsOf sc)).map cr.pv)) K Z (EJ.val (.lst (gM (numsOf sc) 3)) (EJ.bq (bi:=⟨[("place",.int (jd sc)),("numbers",.lst ((numsOf sc).map .int)),("cut",.lst ((sc.take 3).map .int)),("script",.lst (sc.map .int))],ph,fs⟩) (EJ.top G.toTop1 K 50 rfl rfl) tq s8 (am.cons (EJ.cell rfl rfl rfl K) am.nil) (O9 G.toTop1 (Hh sc)) (R.mono (by decide)) C.cw) (by rw[RY]))
 refine XJ.sw (al:=⟨lA (numsOf sc) (jd sc),ph,fs⟩) (l:=[]) (XJ.cons I (XJ.cons Q (XJ.cons (SJ.sw (al:=⟨("records",.lst ((xL (numsOf sc)).map cr.pv))::[("place",.int (jd sc)),("numbers",.lst ((numsOf sc).map .int)),("cut",.lst ((sc.take 3).map .int)),("script",.lst (sc.map .int))],ph,fs⟩) (l:=l3 (numsOf sc) (jd sc)) U (aw.cons rfl (aw.cons rfl (aw.cons rfl .nil)))) ?_))) aw.nil;exact XJ.cons (MJ (Hh sc) G.toTop1 (R.mono (by decide)) C.cw K) (XJ.cons (Wi E4 G.toTop1 R.handled K) (XJ.ret (NF E4 G J R C.cw K)))
section
variable {p:aK}
theorem zx {B:Code->Sem Fin}:∀(n m:Nat) (s:ae) (t:bA),runN B p w (n+m) s t=match runN B p w n s t with | .running s' C=>runN B p w m s' C | .halted o s'=>.halted o s':=by
 intro D
 induction D with
 |zero=>
  intro m s t;rw[lP];rfl
 |succ n G=>
  intro m s t;rw[show n+1+m=n+m+1 by exact nq ..];simp only[runN]
  cases step B p w s t with
  |go s' C=>exact G m s' C
  |halt o s'=>rfl
theorem Run.wQ {r:Run}{s:ae}{t:bA}(h:r.forget=(Run.running s t).forget):∃s' B,r = .running s' B/\s'.forget=s.forget/\B.forget=t.forget:=by
 cases r with
 |running s' B=>simp only[Run.forget,Run.running.injEq] at h;exact⟨_,_,rfl,h.1,h.2⟩
 |halted o s'=>cases h
def Goes (p:aK)(w:aA)(s:ae)(t:bA)(s':ae)(t':bA):Prop:=
 ∃n s₁ t₁,runN (bJ aX) p w n s t = .running s₁ t₁/\s₁.forget=s'.forget/\t₁.forget=t'.forget/\∀k,k<n->∀s₂ t₂,runN (bJ aX) p w k s t = .running s₂ t₂->t₂.calm=true
theorem GR {t B:bA}(h:t.forget=B.forget):t.calm=B.calm:=by rw[<-Thread.calm_forget t,h,Thread.calm_forget]
theorem Goes.refl (s:ae)(t:bA):Goes p w s t s t:=⟨0,s,t,rfl,rfl,rfl,λ k B=>absurd B (by lia)⟩
theorem Goes.trans {s s' cA:ae}{t R EM:bA}(h:Goes p w s t s' R)(k:Goes p w s' R cA EM):Goes p w s t cA EM:=by
 apply bd;intro L;obtain⟨n,H,J,Z,O,T,E⟩:=h;obtain⟨m,U,Y,V,g,d,I⟩:=k;have e:=runN_same (bJ aX) p w m O T;rw[V] at e;obtain⟨C,D,e1,e2,c⟩:=Run.wQ e;apply L;refine⟨n+m,C,D,by rw[zx,Z];exact e1,e2.trans g,c.trans d,λ j r B G q=>?_⟩
 by_cases A:j<n
 .exact E j A _ _ q
 .apply bd;intro L;obtain⟨i,rfl⟩:∃i,j=n+i:=⟨j - n,by lia⟩;rw[zx,Z] at q;have q:runN (bJ aX) p w i H J = .running B G:=q;have e:=runN_same (bJ aX) p w i O T;rw[q] at e;obtain⟨M,N,Q,o,f⟩:=Run.wQ e.symm;apply L;exact(GR f)▸I i (by lia) _ _ Q
theorem Yt:∀{n:Nat}{s s':ae}{t B:bA},runNI (bJ aX) p w n s t = .running s' B->runNK (bJ aX) p w n s t = .running s' B/\∀k,k<n->∀s₂ t₂,runNK (bJ aX) p w k s t = .running s₂ t₂->t₂.calm=true:=by
 intro M
 induction M with
 |zero=>
  intro s s' t B h;exact⟨h,λ k D=>absurd D (by lia)⟩
 |succ n N=>
  intro s s' t B h;simp only[runNI] at h
  cases G:t.loud with
  |true=>rw[stepI_loud (bJ aX) p w G] at h;cases h
  |false=>
   rw[stepI_quiet (bJ aX) p w G] at h;have R:t.calm=true:=by
    rw[Thread.calm_eq,G]
    cases O:t.refused with
    |false=>rfl
    |true=>obtain⟨L,e⟩:=stepK_refused (bJ aX) p w (s:=s) O;rw[e] at h;cases h
   cases C:stepK (bJ aX) p w s t with
   |halt o s₂=>rw[C] at h;cases h
   |go s₂ t₂=>
    rw[C] at h;obtain⟨a,b⟩:x02:=N h;refine⟨by simp only[runNK,C];exact a,λ k D J H q=>?_⟩
    cases k with
    |zero=>cases q;exact R
    |succ k=>simp only[runNK,C] at q;exact b k (Nat.le_of_succ_le_succ D) _ _ q
theorem Goes.MD {n:Nat}{s s':ae}{t J:bA}(h:runNI (bJ aX) p w n s t = .running s' J):Goes p w s t s' J:=by
 apply bd;intro H;obtain⟨a,b⟩:x02:=Yt h;have e:=runNK_same (bJ aX) p w n (s₁:=s) (s₂:=s) (t₁:=t) (t₂:=t) rfl rfl;rw[a] at e;obtain⟨B,C,e1,e2,N⟩:=Run.wQ e.symm;apply H;refine⟨n,B,C,e1,e2,N,λ k R D G q=>?_⟩;have f:=runNK_same (bJ aX) p w k (s₁:=s) (s₂:=s) (t₁:=t) (t₂:=t) rfl rfl;rw[q] at f;apply bd;intro H;obtain⟨M,L,O,U,T⟩:=Run.wQ f;apply H;exact(GR T)▸b k R _ _ O
theorem vV {c:Code}{A:aD}{R:Result->ae->Prop}{s:ae}{pos:Pos}{base:List Frame}(h:codeAny (af p w) A c R s)(D:(Ctx.of c base).Below A):
  ∃r s' B C,R r s'/\Goes p w s ⟨bJ aX c,c,pos,base⟩ s' ⟨leafOf r,B,C,base⟩:=by
 apply bd;intro L;obtain⟨r,s',G,H⟩:=h (Ctx.of c base) pos rfl D;obtain⟨n,M,B,C,adm,J,rfl,rfl⟩:x2133:=(runs_reach G base (Ctx.fits_of c base)).runN;apply L;exact⟨r,s',B,C,H,Goes.MD J⟩
noncomputable def qK (tb:String->Option Builtin)(p:aK)(w:aA):Nat->aV->bA->Option (aV×bA)
 |0,s,t=>some (s,t)
 |n+1,s,t=>match t.calm with
  |false=>none
  |true=>match stepT (bJ tb) p w s t with
   |some (s',t')=>qK tb p w n s' t'
   |none=>none
theorem JL:qK tb p w (n+1) s t=match t.calm with|false=>none|true=>match stepT (bJ tb) p w s t with|some (s',B)=>qK tb p w n s' B|none=>none:=rfl
theorem Goes.ofT:∀{n:Nat}{s s':aV}{t D:bA},qK aX p w n s t=some (s',D)->Goes p w s.abs t s'.abs D:=by
 intro M
 induction M with
 |zero=>
  intro s s' t D h;cases h;exact Goes.refl _ _
 |succ n N=>
  intro s s' t D h;rw[JL] at h
  cases G:t.calm with
  |false=>rw[G] at h;cases h
  |true=>
   rw[G] at h
   cases H:stepT (bJ aX) p w s t with
   |none=>rw[H] at h;cases h
   |some r=>
    obtain(⟨B,C⟩):=r;rw[H] at h;have e:=stepT_spec H;refine Goes.trans ⟨1,B.abs,C,by simp only[runN,e],rfl,rfl,λ k O L J q=>?_⟩ (N h);obtain rfl:k=0:=by lia
    cases q;exact G
theorem Goes.tree {n:Nat}{s s':aV}{t B:bA}(h:qK treeTable p w n s t=some (s',B)):Goes p w s.abs t s'.abs B:=Goes.ofT (by rw[table_eq_tree];exact h)
theorem Goes.sched {s s':ae}{t C:bA}{f:Flow}(h:Goes p w s t s' C)(U:s.asleep)(Z:s'.NoSusp)(L:C.cur = .pure (.done f))(B:C.stack=[]):
  ∃n t₁,schedN (bJ aX) p w n (.single s t) = .running (.single s' t₁)/\through t₁=true:=by
 apply bd;intro H;obtain⟨n,J,t₁,D,Q,M,Y⟩:=h;obtain rfl:=Shared.eq_of_forget_eq' Q Z;obtain(⟨T,code,G,st⟩):=t₁;obtain(⟨adg,adj,R,bv⟩):=C;dsimp only at L B;subst L B;simp only[Thread.forget,Thread.mk.injEq,forgetAll,List.map_nil,List.map_eq_nil_iff] at M;obtain⟨rfl,_,_,rfl⟩:x04:=M;apply H;refine⟨n,⟨.pure (.done f),code,G,[]⟩,?_,by rfl⟩
 rewrite [schedN_prefix (bJ aX) p w n s t U λ k N O B q=>⟨Y k B _ _ q,λ e=>?_⟩,D]
 .rfl
 .apply bd;intro H;obtain⟨m,rfl⟩:∃m,n=k+(m+1):=Nat.exists_eq_add_of_lt B;apply H;rw[zx,q] at D;simp only[runN,e] at D;cases D
theorem Goes.life {s s':ae}{t L:bA}(h:Goes p w s t s' L):s'.heap.life=s.heap.life:=by
 obtain⟨n,B,C,N,O,T,R⟩:=h;have H:∀(n:Nat) (s B:ae) (t C:bA),runN (bJ aX) p w n s t = .running B C->B.heap.life=s.heap.life:=by
  intro n
  induction n with
  |zero=>intro s B t C h;cases h;rfl
  |succ n M=>
   intro s B t C h;simp only[runN] at h
   cases J:step (bJ aX) p w s t with
   |halt o D=>rw[J] at h;cases h
   |go D G=>rw[J] at h;rw[M _ _ _ _ h,step_life (bJ aX) p w s D t G J]
 have e:B.heap=s'.heap:=by have:=congrArg Shared.heap O;exact this
 rw[<-e];exact H _ _ _ _ _ N
end
noncomputable def mY (N:Nat):Nat->Nat->Nat
 |0,i=>i
 |k+1,i=>mY N k ((i * 5+1) % N)
noncomputable def its (N:Nat):Nat->Nat->List Nat
 |0,_=>[]
 |k+1,i=>i::its N k ((i * 5+1) % N)
theorem zu (N:Nat):∀a b i,mY N (a+b) i=mY N b (mY N a i):=by
 intro B
 induction B with
 |zero=>
  intro b i;rw[lP];rfl
 |succ a C=>
  intro b i;rw[show a+1+b=a+b+1 by exact nq ..];exact C b _
theorem GW {N j:Nat}:∀{k i},j∈its N k i->∃r,r<k/\mY N r i=j:=by
 intro B
 induction B with
 |zero=>
  intro _ h;cases h
 |succ k C=>
  intro i h
  rcases aG.mp h with rfl|h
  .exact⟨0,eb ..,rfl⟩
  .obtain⟨r,D,e⟩:=C h;exact⟨r+1,Nat.lt_succ_of_le D,e⟩
structure fv (N:Nat):Prop where
 pos:0<N
 back:mY N N 0=0
 all:∀j,j<N->j∈its N N 0
theorem PE:fv 8:=⟨by decide,by decide +kernel,by decide +kernel⟩
theorem N2:fv 32:=⟨by decide,by decide +kernel,by decide +kernel⟩
theorem NC:fv 128:=⟨by decide,by decide +kernel,by decide +kernel⟩
theorem fv.reach {N i j:Nat}(c:fv N)(hi:i<N)(B:j<N):∃k,k<N/\mY N k i=j:=by
 obtain⟨m,D,rfl⟩:=GW (c.all i hi);obtain⟨r,C,rfl⟩:=GW (c.all j B)
 by_cases h:m<=r
 .exact⟨r - m,by exact c7 (Nat.sub_le ..) C,by rw[<-zu,show m+(r - m)=r by exact Nat.add_sub_cancel' h]⟩
 .exact⟨N - m+r,by lia,by rw[<-zu,show m+(N - m+r)=N+r by lia,zu,c.back]⟩
noncomputable def pL (mask:Nat):Nat->Nat->Nat->Nat
 |0,i,_=>i
 |k+1,i,GE=>pL mask k (SetTable.leap mask i GE).1 (SetTable.leap mask i GE).2
theorem UQ (B:Nat):∀k i,pL B k i 0=mY (B+1) k i:=by
 intro C
 induction C with
 |zero=>
  intro _;exact rfl
 |succ k D=>
  intro i;show pL B k ((i * 5+1+0 / 32) % (B+1)) (0 / 32)=_;rw[show(0:Nat) / 32=0 from rfl,Nat.add_zero];exact D _
theorem Gq {B j:Nat}(c:fv (B+1))(L:j<B+1):∀n i GE,i<B+1->GE<32 ^ n->∃k,k<n+(B+1)/\pL B k i GE=j:=by
 intro H
 induction H with
 |zero=>
  intro i GE D G;obtain rfl:GE=0:=by have:(32:Nat) ^ 0=1:=rfl;lia
  obtain⟨k,C,e⟩:=c.reach D L;exact⟨k,av C (eb ..),by rw[UQ];exact e⟩
 |succ n J=>
  intro i GE D G;obtain⟨k,C,e⟩:=J (SetTable.leap B i GE).1 (SetTable.leap B i GE).2 (Nat.mod_lt _ (eb ..)) (by
   show GE / 32<_;rw[Nat.pow_succ] at G;exact Nat.div_lt_of_lt_mul (by lia))
  exact⟨k+1,by lia,e⟩
theorem EY (h:Int):jq h<32 ^ 13:=by
 unfold jq;have C:(0:Int)<=h % (2 ^ 64:Int):=Int.emod_nonneg _ (by decide);have B:h % (2 ^ 64:Int)<(2 ^ 64:Int):=Int.emod_lt_of_pos _ (by decide);have:(2:Int) ^ 64<=((32 ^ 13:Nat):Int):=by decide
 lia
structure bw (t:SetTable)(n M:Nat):Prop where
 mask:t.mask=M
 size:t.place.size=n
 oh:t.dummies = #[]
theorem bw.slot {t:SetTable}{n M j:Nat}(T:bw t n M):t.slot j≠.dummy/\(j∉t.place.toList->t.slot j = .empty):=by
 have C:SetTable.has t.dummies j=false:=by rw[T.oh];simp[SetTable.has]
 unfold SetTable.slot;rw[C];dsimp only
 constructor
 .split<;>simp
 .intro B;rw[(if_neg),if_neg (by decide)];intro e;have e:t.place[SetTable.below t.place j]? = some j:=by simpa using e
  exact B (Array.mem_toList_iff.mpr (Array.mem_of_getElem? e))
theorem Zk:∀{l m:List Nat},l.Nodup->(∀x∈l,x∈m)->l.length<=m.length:=by
 intro G
 induction G with
 |nil=>
  intro _ _ _
  simp
 |cons a l H=>
  intro m B h;rw[c8] at B;have D:=h a (aN ..);have:=H B.2 λ x C=>(List.mem_erase_of_ne (λ(e:x=a)=>B.1 (e▸C))).mpr (h x (aT _ C))
  rw[List.length_erase_of_mem D] at this;have:0<m.length:=List.length_pos_of_mem D;simp only[cN]
  lia
theorem bw.free {t:SetTable}{n M:Nat}(T:bw t n M)(h:n<M+1):∃j,j<M+1/\t.slot j = .empty:=by
 apply o8;intro n5;have B:∀x∈bj (M+1),x∈t.place.toList:=λ x C=>by
  apply o8;intro qM;exact n5 ⟨x,ke.mp C,T.slot.2 qM⟩
 have:=Zk List.nodup_range B;rw[List.length_range,ed,T.size] at this;exact absurd h (Nat.not_lt.mpr this)
noncomputable def pw (mask i GE:Nat):SetTable.Probe:={j:=i,more:=SetTable.runEnd mask i - i,i,perturb:=GE,dummy:=none}
theorem Ov {t:SetTable}{f:Nat->Int}{h:Int}:∀(n c:Nat) (p:SetTable.Probe) (r:SetTable.Met),pJ t f h n p=some r->pJ t f h (n+c) p=some r:=by
 intro G
 induction G with
 |zero=>
  intro _ _ _ e
  simp[pJ] at e
 |succ n C=>
  intro c p r e;rw[show n+1+c=n+c+1 by exact nq ..]
  change DD _ (t.slot p.j) _ _ _=_ at e ⊢
  cases B:t.slot p.j with
  |empty=>rw[B] at e;exact e
  |dummy=>rw[B] at e;exact C c _ _ e
  |live i=>
   rw[B] at e;dsimp only at e ⊢
   by_cases D:(f i==h)=true
   .rw[if_pos D] at e ⊢;exact e
   .rw[if_neg D] at e ⊢;exact C c _ _ e
theorem win {t:SetTable}{n M:Nat}(T:bw t n M){h:Int}{i GE F:Nat}(H:∃j,pJ t (λ _=>h+1) h F (pw M (SetTable.leap M i GE).1 (SetTable.leap M i GE).2)=some (.empty j none)):
  ∀(m j:Nat),∃B,pJ t (λ _=>h+1) h (F+m+1) {j:=j,more:=m,i,perturb:=GE,dummy:=none}=some (.empty B none):=by
 have C:((h+1:Int)==h)=false:=by rw[(beq_eq_false_iff_ne)];lia
 intro m
 induction m with
 |zero=>
  intro j;show ∃B,pJ t _ h (F+1) _=_;show ∃B,DD _ (t.slot j) _ _ _=_;dsimp only
  cases D:t.slot j with
  |empty=>exact⟨_,rfl⟩
  |dummy=>exact absurd D T.slot.1
  |live k=>
   dsimp only;rw[C,if_neg (by decide)];have:SetTable.advance t {j:=j,more:=0,i,perturb:=GE,dummy:=none}=pw M (SetTable.leap M i GE).1 (SetTable.leap M i GE).2:=by
    unfold SetTable.advance pw;rw[if_neg (by simp),T.mask]
   rw[this];exact H
 |succ m G=>
  intro j;show ∃B,pJ t _ h (F+m+1+1) _=_;show ∃B,DD _ (t.slot j) _ _ _=_;dsimp only
  cases D:t.slot j with
  |empty=>exact⟨_,rfl⟩
  |dummy=>exact absurd D T.slot.1
  |live k=>
   dsimp only;rw[C,if_neg (by decide)];have:SetTable.advance t {j:=j,more:=m+1,i,perturb:=GE,dummy:=none}={j:=j+1,more:=m,i,perturb:=GE,dummy:=none}:=by
    unfold SetTable.advance;rw[if_pos (by simp)];rfl
   rw[this];exact G (j+1)
theorem En {t:SetTable}{n M:Nat}(T:bw t n M){h:Int}:∀(W k i GE:Nat),k<W->t.slot (pL M k i GE) = .empty->∃j,pJ t (λ _=>h+1) h (10 * W) (pw M i GE)=some (.empty j none)
 |0,k,_,_,B,_=>absurd B (by lia)
 |W+1,0,i,GE,_,C=>by
  rw[show 10 * (W+1)=10 * W+9+1 by exact(Nat.succ_add ..).symm];show ∃H,DD _ (t.slot (pw M i GE).j) _ _ _=_;have:t.slot (pw M i GE).j = .empty:=C;rw[this];exact⟨_,rfl⟩
 |W+1,k+1,i,GE,B,C=>by
  have G:(pw M i GE).more<=9:=by
   show SetTable.runEnd M i - i<=9;unfold SetTable.runEnd;split<;>lia
  obtain(⟨j,D⟩):=win T (En T W k _ _ (Nat.le_of_succ_le_succ B) C) (pw M i GE).more i;refine⟨j,?_⟩;rw[show 10 * (W+1)=10 * W+(pw M i GE).more+1+(9 - (pw M i GE).more) by lia];exact Ov _ _ _ _ D
theorem bw.freeSlot {t:SetTable}{n M:Nat}(T:bw t n M)(c:fv (M+1))(B:n<M+1)(h:Int):∃j,t.freeSlot h=some (j,false):=by
 apply bd;intro G;obtain⟨j,C,H⟩:=T.free B;obtain⟨k,J,e⟩:=Gq c C 13 (jq h % (M+1)) (jq h) (Nat.mod_lt _ (eb ..)) (EY h);obtain⟨D,pZ⟩:=En T (h:=h) (SetTable.turns M) k _ _ (by unfold SetTable.turns;lia) (e▸H);apply G;refine⟨D,?_⟩;unfold SetTable.freeSlot SetTable.probe SetTable.probeStart;rw[T.mask];unfold pw at pZ;rw[pZ]
 rfl
theorem Si {B:Nat}{owner:Array (Option Nat)}:∀(F k i GE:Nat),k<F->owner[pL B k i GE]? = some none->∃j,yr B owner F i GE=some j/\owner[j]? = some none:=by
 intro H
 induction H with
 |zero=>
  intro k _ _ C _;exact absurd C (by lia)
 |succ F J=>
  intro k i GE C G;show ∃j,SetTable.drop.match_1 _ ((bj (SetTable.runEnd B i+1 - i)).find? λ k=>(owner.getD (i+k) (some 0)).isNone) _ _=_/\_
  cases D:(bj (SetTable.runEnd B i+1 - i)).find? λ k=>(owner.getD (i+k) (some 0)).isNone with
  |some m=>
   have:=List.find?_some D;refine⟨i+m,rfl,?_⟩;rw[vq] at this
   cases q:owner[i+m]? with
   |none=>rw[q] at this;simp at this
   |some v=>rw[q] at this;cases v with
    |none=>rfl
    |some v=>simp at this
  |none=>
   cases k with
   |zero=>
    exfalso
    have:=List.find?_eq_none.mp D 0 (ke.mpr (by unfold SetTable.runEnd;split<;>lia));apply this;rw[vq,Nat.add_zero,show owner[i]? = some none from G]
    rfl
   |succ k=>exact J k _ _ (Nat.le_of_succ_le_succ C) G
theorem EB {k:Nat}:∀{l:List (Option Nat)}{j:Nat},l[j]? = some none->((l.set j (some k)).filterMap id).Perm (k::l.filterMap id)
 | [],j,h=>by simp at h
 |x::l,0,h=>by
  obtain rfl:x=none:=by simpa using h
  simp
 |x::l,j+1,h=>by
  have B:=EB (k:=k) (l:=l) (j:=j) (by simpa using h)
  cases x with
  |none=>simpa using B
  |some x=>simpa using (B.cons x).trans (.swap ..)
structure ri (owner:Array (Option Nat))(mask k:Nat):Prop where
 size:owner.size=mask+1
 perm:(owner.toList.filterMap id).Perm (bj k).reverse
theorem Ex:∀{l:List (Option Nat)},(∀x∈l,x≠none)->(l.filterMap id).length=l.length
 | [],_=>rfl
 |none::l,h=>absurd rfl (h none (aN ..))
 |some x::l,h=>by simp[Ex (l:=l) λ y B=>h y (aT _ B)]
theorem ri.free {owner:Array (Option Nat)}{B k:Nat}(O:ri owner B k)(c:fv (B+1))(L:k<B+1)(h:Int):
  ∃j,yr B owner (SetTable.turns B) (jq h % (B+1)) (jq h)=some j/\owner[j]? = some none:=by
 have D:∃j,j<B+1/\owner[j]? = some none:=by
  apply o8;intro n5;have:(owner.toList.filterMap id).length=owner.toList.length:=Ex λ x G e=>by
   subst e;obtain⟨j,C⟩:=List.getElem?_of_mem G;rw[Array.getElem?_toList] at C;exact n5 ⟨j,by have:=(lI.mp C).1;rw[O.size] at this;exact this,C⟩
  rw[O.perm.length_eq,jn,List.length_range,ed,O.size] at this
  lia
 apply bd;intro H;obtain⟨j,C,J⟩:=D;obtain⟨m,M,e⟩:=Gq c C 13 (jq h % (B+1)) (jq h) (Nat.mod_lt _ (eb ..)) (EY h);apply H;exact Si _ m _ _ (by unfold SetTable.turns;lia) (e▸J)
theorem RZ {B:Nat}(c:fv (B+1)):∀(C:List Int) (owner:Array (Option Nat)) (k:Nat),ri owner B k->k+C.length<=B+1 ->
  ∃o',C.foldl (λ D h=>D.bind λ x=>(yr B x.1 (SetTable.turns B) (jq h % (B+1)) (jq h)).bind λ j=>some (x.1.setIfInBounds j (some x.2),x.2+1)) (some (owner,k))=some (o',k+C.length)/\ri o' B (k+C.length):=by
 intro J
 induction J with
 |nil=>
  intro owner k O _;exact⟨owner,rfl,O⟩
 |cons h C L=>
  intro owner k O G;rw[cN] at G;apply bd;intro R;obtain⟨j,M,T⟩:=O.free c (II G) h;have N:ri (owner.setIfInBounds j (some k)) B (k+1):=by
   refine⟨by rw[Array.size_setIfInBounds,O.size],?_⟩;rw[Array.toList_setIfInBounds,List.range_succ,List.reverse_append];exact(EB (by rw[Array.getElem?_toList];exact T)).trans (O.perm.cons k)
  obtain⟨o',e,H⟩:=L _ (k+1) N (by lia);apply R;refine⟨o',?_,by rw[cN,show k+(C.length+1)=k+1+C.length by exact(Nat.succ_add ..).symm];exact H⟩;rw[List.foldl_cons,cN,show k+(C.length+1)=k+1+C.length by exact(Nat.succ_add ..).symm,<-e]
  congr 1
  show(yr B owner _ _ _).bind _=_;rw[M]
  rfl
theorem Pn {B:Nat}(c:fv (B+1))(C:Array Int)(H:C.size<=B+1):∃o,SetTable.layClean B C=some o/\ri o B C.size:=by
 apply bd;intro G;obtain⟨o,e,O⟩:=RZ c C.toList (nH (B+1) none) 0 ⟨by simp,by
  rw[show(nH (B+1) (none:Option Nat)).toList.filterMap id=[] by simp];exact .refl _⟩ (by simpa using H)
 apply G;refine⟨o,?_,by simpa using O⟩;unfold SetTable.layClean;rw[<-Array.foldl_toList];have:(C.toList.foldl (λ D h=>D.bind λ x=>(yr B x.1 (SetTable.turns B) (jq h % (B+1)) (jq h)).bind λ j=>some (x.1.setIfInBounds j (some x.2),x.2+1)) (some (nH (B+1) none,0))).map (·.1)=some o:=by rw[e];rfl
 exact this
theorem Zl {α:Type}(o:Array (Option α)):(bj o.size).map (λ j=>o.getD j none)=o.toList:=by
 apply List.ext_getElem?;intro i;rw[cM,show o.toList[i]? = o[i]? from Array.getElem?_toList]
 by_cases h:i<o.size
 .rw[List.getElem?_range h,Option.map_some,vq,vi h,Option.getD_some]
 .rw[lG (by simpa using h),Array.getElem?_eq_none (by simpa using h)];rfl
theorem FN {M:Nat}(c:fv (M+1))(f L:Nat)(led H:Bool)(C:Array Int)(N:C.size<=M+1):
  ∃G B,SetTable.laid M f L led H C=some (G,B)/\bw G C.size M/\B.toList.Perm (bj C.size):=by
 apply bd;intro J;obtain⟨o,e,O⟩:=Pn c C N;apply J;have D:(((bj (M+1)).filterMap λ j=>(o.getD j none).map (j,·)).map (·.2)).Perm (bj C.size):=by
  have:((bj (M+1)).filterMap λ j=>(o.getD j none).map (j,·)).map (·.2)=o.toList.filterMap id:=by
   rw[<-Zl o,O.size,List.filterMap_map,List.map_filterMap]
   congr 1
   funext j
   show((o.getD j none).map (j,·)).map (·.2)=o.getD j none;cases o.getD j none<;>rfl
  rw[this];exact O.perm.trans (List.reverse_perm _)
 refine⟨_,_,by unfold SetTable.laid;rw[e];rfl,⟨rfl,?_,rfl⟩,by rw[List.toList_toArray];exact D⟩;have:=D.length_eq;rw[aE,List.length_range] at this;rw[dJ,aE];exact this
theorem MR {α:Type}:∀l:List α,(bj l.length).filterMap (λ i=>l[i]?)=l:=by
 intro B
 induction B with
 |nil=>
  exact rfl
 |cons x l C=>
  rw[cN,List.range_succ_eq_map,List.filterMap_cons,List.getElem?_cons_zero,List.filterMap_map];show x::List.filterMap (λ i=>l[i]?) (bj l.length)=_;rw[C]
theorem Ry {es:Array (Int×Value)}{B:Array Nat}(D:B.toList.Perm (bj es.size)):(B.filterMap (es[·]?)).size=es.size/\(B.filterMap (es[·]?)).toList.Perm es.toList:=by
 have H:(B.filterMap (es[·]?)).toList=B.toList.filterMap (es[·]?):=by simp
 have G:(bj es.size).filterMap (es[·]?)=es.toList:=by
  have:=MR es.toList;rw[ed] at this;rw[<-this]
  congr 1
  funext i
  exact Array.getElem?_toList.symm
 have C:(B.filterMap (es[·]?)).toList.Perm es.toList:=by rw[H,<-G];exact D.filterMap _
 refine⟨?_,C⟩;rw[<-ed,C.length_eq,ed]
theorem bw.fill {t:SetTable}{n M:Nat}(T:bw t n M):t.fill=n:=by
 unfold SetTable.fill;rw[T.size,T.oh];rfl
theorem bw.fits {t:SetTable}{n M:Nat}(T:bw t n M)(h:n<=M):t.fits n=true:=by
 unfold SetTable.fits;rw[T.fill,T.size,T.mask];simp[h]
theorem bw.off {t:SetTable}{n M:Nat}(T:bw t n M)(b:Bool):bw {t with plain:=b} n M:=⟨T.mask,T.size,T.oh⟩
theorem WZ {t:SetTable}{es:Array (Int×Value)}{wanted M:Nat}(J:e9 wanted - 1=M)(c:fv (M+1))(D:es.size<=M):
  (relayAll t es wanted).2.2=false/\bw (relayAll t es wanted).2.1 es.size M:=by
 unfold relayAll SetTable.relaid;rw[J];apply bd;intro H;obtain⟨L,B,e,T,C⟩:=FN c t.finger (t.movedTo M) t.led t.plain (es.map (·.1)) (by rw[Array.size_map];exact lY D);apply H;rw[Array.size_map] at T C;rw[e];dsimp only;have G:coversAll B es.size=true:=by unfold coversAll;exact List.isPerm_iff.mpr C
 rw[G,(Ry C).1,T.fits D];exact⟨rfl,T⟩
theorem zc {α:Type}(xs:Array α)(p:Nat)(x:α):(SetTable.insertAt xs p x).size=xs.size+1:=by
 unfold SetTable.insertAt;rw[Array.size_append,Array.size_push,Array.size_extract,Array.size_extract,Nat.min_self,Nat.sub_zero]
 rcases Nat.le_total p xs.size with h|h
 .rw[nu h,nq,Nat.add_sub_cancel' h]
 .rw[Nat.min_eq_right h,Nat.sub_eq_zero_of_le h]
theorem Qc {t:SetTable}{es:Array (Int×Value)}{M:Nat}(T:bw t es.size M)(c:fv (M+1))(B:es.size+1<=M)(h:Int)(x:Value):
  (layNew t es h x).2.2=(false,false)/\bw (layNew t es h x).2.1 (es.size+1) M/\(layNew t es h x).1.size=es.size+1:=by
 obtain⟨j,e⟩:=T.freeSlot c (lY B) h;unfold layNew;rw[e];dsimp only;have C:bw (t.put j).1 (es.size+1) M:=by
  refine⟨T.mask,?_,?_⟩
  .show(SetTable.insertAt _ _ _).size=_;rw[zc,T.size]
  .show(if SetTable.has t.dummies j then _ else t.dummies)=_;rw[T.oh,show SetTable.has #[] j=false by simp[SetTable.has],if_neg (by decide)]
 have D:=C.fits B;unfold SetTable.orStandIn;rw[zc,D];exact⟨rfl,C,rfl⟩
noncomputable def Cl (n:Nat):Nat:=if n<5 then 7 else if n<19 then 31 else 127
theorem zz (n:Nat):fv (Cl n+1):=by
 unfold Cl
 split
 .exact PE
 .split
  .exact N2
  .exact NC
theorem XD {n:Nat}(h:n+1<77):n+1<=Cl n:=by
 unfold Cl;split<;>(try split)<;>lia
theorem N5 {n:Nat}(h:n+1<77):(Cl n * 3<=(n+1) * 5/\e9 (SetTable.grown (n+1)) - 1=Cl (n+1))\/(¬Cl n * 3<=(n+1) * 5/\Cl n=Cl (n+1)):=by
 have B:∀n,n<76->(Cl n * 3<=(n+1) * 5/\e9 (SetTable.grown (n+1)) - 1=Cl (n+1))\/(¬Cl n * 3<=(n+1) * 5/\Cl n=Cl (n+1)):=by decide +kernel
 exact B n (ia h rfl)
section
variable {E:Value->ae->Prop}{s:ae}
structure wE (pg:aK)(w:aA)(es:Array (Int×Value))(t:SetTable)(S:Str->Bool)(n:Nat):Prop where
 el:ElemsOf (strKind pg w) es.toList
 mem:∀k,S k=true↔∃e∈es.toList,(strKind pg w).is k e.2=true
 wv:es.toList.Pairwise λ a b=>∀k,(strKind pg w).is k a.2=true->(strKind pg w).is k b.2=true->False
 size:es.size=n
 tab:bw t n (Cl n)
 small:n<77
noncomputable def up (es:Array (Int×Value))(ep:Nat)(t:SetTable):Obj:={cls:=.type "frozenset",data:=.set es ep t}
theorem wE.fits {S}(F:wE pg w es t S n):t.fits es.size=true:=by
 rw[F.size];refine F.tab.fits ?_;have:=F.small;unfold Cl;split<;>(try split)<;>lia
theorem wE.congr {S}(F:wE pg w es t S n)(h:∀k,S k=S' k):wE pg w es t S' n:=(funext h:S=S')▸F
theorem Bd {a:Addr}{es:Array (Int×Value)}{ep:Nat}{t:SetTable}{S:Str->Bool}{n:Nat}{k:Str}{tk:Tok}{Q:Bool->ae->Prop}
  (Z:s.heap.get? a=some (up es ep t)) (F:wE pg w es t S n) (I:S k=false) (J:n+1<77)
  (h:∀h' Y pt z,ba a s.heap h'->h'.get? a=some (up Y pt z)->wE pg w Y z (λ N=>S N||decide (N=k)) (n+1)->Q true {s with heap:=h'}):
  ag (af pg w) A (setAddHashed a (.str k tk) ((strKind pg w).hash k)) Q E s:=by
 have D:(strKind pg w).is k (.str k tk)=true:=by simp[aW,Value.isStrOf]
 have O:(Value.str k tk).scannable=true:=rfl;have p:es.size<scanBound:=by rw[F.size];show n<4096;exact ia J rfl
 unfold setAddHashed setAddHashedIn;refine aQ (aa (gj Z rfl F.fits ?_));dsimp only;rw[byScan_of O p F.el,if_pos rfl];unfold setAddByScan;refine aa (aa (fE (aa (wpAny_setScan_of D Z rfl F.fits F.el ?_))));have H:List.findIdx? (λ e=>(strKind pg w).is k e.2) es.toList=none:=by
  cases G:List.findIdx? (λ e=>(strKind pg w).is k e.2) es.toList with
  |none=>rfl
  |some j=>
   obtain⟨hj,sd,_⟩:=List.findIdx?_eq_some_iff_getElem.mp G;rw[(F.mem k).mpr ⟨es.toList[j],List.getElem_mem hj,sd⟩] at I;cases I
 rw[H];dsimp only;have qI:=layNew_perm t es ((strKind pg w).hash k) (.str k tk);obtain⟨f,R,B⟩:x03:=Qc (M:=Cl n) (t:=t) (es:=es) (by rw[F.size];exact F.tab) (zz n) (by rw[F.size];exact XD J) ((strKind pg w).hash k) (.str k tk);generalize layNew t es ((strKind pg w).hash k) (.str k tk)=L at qI f R B ⊢;obtain(⟨cn,t1,wd,Pu⟩):=L;dsimp only at qI f R B ⊢;obtain⟨rfl,rfl⟩:wd=false/\Pu=false:=by simpa using f
 rw[F.size] at R B;rw[Array.toList_push] at qI;have Gu:ElemsOf (strKind pg w) cn.toList:=(F.el.push D O).perm qI;have Ew:=mem_push_iff D F.mem qI;have F9:∀{a b:Int×Value},(∀k,(strKind pg w).is k a.2=true->(strKind pg w).is k b.2=true->False)->∀k,(strKind pg w).is k b.2=true->(strKind pg w).is k a.2=true->False:=λ h k o q2=>h k q2 o
 have gZ:(es.toList++[((strKind pg w).hash k,Value.str k tk)]).Pairwise λ a b=>∀k,(strKind pg w).is k a.2=true->(strKind pg w).is k b.2=true->False:=by
  refine List.pairwise_append.mpr ⟨F.wv,List.pairwise_singleton ..,λ e U b p N o q2=>?_⟩;obtain rfl:=aO.mp p;have uz:N=k:=(strKind pg w).inj _ _ _ q2 D;subst uz;rw[(F.mem N).mpr ⟨e,U,o⟩] at I;cases I
 have JR:=(qI.pairwise_iff F9).mpr gZ;refine aa ?_;show ag _ _ (aq ()) _ _ _;refine ah ?_;have T:∀(g:Bool->Sem Unit) (X:g false=aq ()) C,bw C (n+1) (Cl n)->ag (af pg w) A (do
   storeSet a cn C
   if (!false&&C.tooFull)=true then do
    g (relayAll C cn (SetTable.grown cn.size)).2.2
    storeSet a (relayAll C cn (SetTable.grown cn.size)).1 (relayAll C cn (SetTable.grown cn.size)).2.1
    aq (some true)
   else aq (some true)) (λ r c=>r=some true/\Q true c) E s:=by
  intro g X C u;have gY:(s.heap.update a (Obj.putSet cn C)).get? a=some (up cn (ep+1) C):=by
   have:=eG (Obj.putSet cn C) Z (by rw[putSet_of cn C rfl];rfl);rw[putSet_of cn C rfl] at this;exact this
  have hz:cn.size<=aH:=by rw[B,ak];exact ia J rfl
  have iN:=gf s.heap a (Obj.putSet cn C);refine aa (wpAny_storeSet_of Z rfl ?_ hz);have Th:C.tooFull=decide (Cl n * 3<=(n+1) * 5):=by unfold SetTable.tooFull;rw[u.fill,u.mask]
  rw[Th]
  rcases N5 J with⟨m,d⟩|⟨m,d⟩
  .rw[if_pos (by simpa using m)];have hc:=zz (n+1);have G:=WZ (t:=C) (es:=cn) (wanted:=SetTable.grown cn.size) (by rw[B];exact d) hc (by rw[B];have:=J;unfold Cl;split<;>(try split)<;>lia);have mO:=relayAll_perm C cn (SetTable.grown cn.size);generalize relayAll C cn (SetTable.grown cn.size)=L2 at G mO ⊢;obtain(⟨lh,V,g2⟩):=L2;dsimp only at G mO ⊢;rw[G.1,X];have GU:lh.size=n+1:=by rw[<-ed,mO.length_eq,ed,B]
   refine aa (ah (aa (wpAny_storeSet_of gY rfl (ah ⟨rfl,?_⟩) (by rw[GU,ak];exact av (dK B.symm) hz))));refine h _ lh (ep+1+1) V (iN.trans (gf _ a _)) ?_ ⟨Gu.perm mO,λ N=>(Ew N).trans ⟨λ⟨e,U,q⟩=>⟨e,mO.mem_iff.mpr U,q⟩,λ⟨e,U,q⟩=>⟨e,mO.mem_iff.mp U,q⟩⟩,(mO.pairwise_iff F9).mpr JR,GU,B▸G.2,J⟩;have:=eG (Obj.putSet lh V) gY (by rw[putSet_of lh V rfl];rfl);rw[putSet_of lh V rfl] at this;exact this
  .rw[if_neg (by simpa using m)];exact ah ⟨rfl,h _ cn (ep+1) C iN gY ⟨Gu,Ew,JR,B,d▸u,J⟩⟩
 split
 .refine aa ?_;rw[hashByValue_scannable 8 O];refine ah ?_;refine eY (T _ rfl _ ?_) (λ r c G=>?_) λ _ _ x=>x
  .split
   .exact R
   .exact R.off _
  .obtain⟨rfl,y⟩:x02:=G;exact ah y
 .refine aa (ah ?_);refine eY (T _ rfl _ ?_) (λ r c G=>?_) λ _ _ x=>x
  .exact R
  .obtain⟨rfl,y⟩:x02:=G;exact ah y
end
def xz (l:List Addr)(k:Nat)(h h':Heap):Prop:=h'.objs.size=h.objs.size+k/\∀b,b<h.objs.size->b∉l->h'.get? b=h.get? b
theorem xz.trans {l:List Addr}{j k:Nat}{h h' kQ:Heap}(x:xz l j h h')(y:xz l k h' kQ):xz l (j+k) h kQ:=
 ⟨by rw[y.1,x.1];lia,λ b B C=>(y.2 b (by rw[x.1];exact gb B (dW _ _)) C).trans (x.2 b B C)⟩
theorem xz.same {l:List Addr}{a:Addr}{h h':Heap}(x:ba a h h')(B:a∈l):xz l 0 h h':=⟨x.1,λ b _ C=>x.2 b λ e=>C (e▸B)⟩
theorem xz.push (l:List Addr)(h:Heap)(o:Obj):xz l 1 h (h.push o):=by
 refine⟨?_,λ b B _=>?_⟩
 .cases h;simp[Heap.push]
 .obtain(⟨os,lf⟩):=h;have B:b<os.size:=B;have e:(os.push o)[b]? = os[b]?:=by rw[Array.getElem?_push,if_neg (aS B)]
  show Heap.get? ⟨os.push o,lf⟩ b=Heap.get? ⟨os,lf⟩ b;unfold Heap.get?;dsimp only;rw[e]
theorem xz.sub {l m:List Addr}{k:Nat}{h h':Heap}(x:xz l k h h')(C:∀a∈l,a∈m):xz m k h h':=⟨x.1,λ b D B=>x.2 b D λ q=>B (C b q)⟩
theorem xz.get {l:List Addr}{k:Nat}{h h':Heap}{a:Addr}{o:Obj}(x:xz l k h h')(B:a∉l)(e:h.get? a=some o):h'.get? a=some o:=(x.2 a (bP e) B).trans e
section
variable {E:Value->ae->Prop}{s:ae}
theorem G6 {Q:Value->ae->Prop}(h:∀h' e,xz [] 2 s.heap h'->(∃o,h'.get? e=some o/\o.cls = .type "StopIteration")->Q (.ref e) {s with heap:=h'}):ag (af pg w) A (newExc (.type "StopIteration") []) Q E s:=by
 simp only[newExc,newTuple];refine aa (gN ?_ (by size_fits));refine aa (m:=firstArgMember _ _) (jk (a:=Value.none) (by first|rfl|(simp only[firstArgMember];rfl)) ?_);exact gN (h _ _ ((xz.push ..).trans (xz.push ..)) ⟨_,cj _ rfl,rfl⟩) (by size_fits)
theorem Jo {α:Type}{Q:α->ae->Prop}(D:A.handled=none)(h:∀h' e,xz [] 2 s.heap h'->(∃o,h'.get? e=some o/\o.cls = .type "StopIteration")->E (.ref e) {s with heap:=h'}):
  ag (af pg w) A (newExc (.type "StopIteration") [] >>= λ e=>(raiseNew e:Sem α)) Q E s:=
 aa (G6 λ h' e B C=>wpAny_raiseNew_none D (h h' e B C))
theorem Zm {it:Addr}{x:Str}{t:Tok}{i:Nat}{Q:Option Value->ae->Prop}(R:A.handled=none)(B:s.heap.IsStrIter it "str_ascii_iterator" x t i)(hx:x.cps[i]? = none)
  (O:∀h',xz [it] 2 s.heap h'->Q none {s with heap:=h'}):ag (af pg w) A (pyNext (.ref it)) Q E s:=by
 apply bd;intro C;obtain⟨o,G,U,D⟩:x13:=id B;apply C;unfold pyNext;refine aa (wpAny_attempt (nI (name:=gT "__next__") B.typeIs F.slot_str_ascii_iterator_next
  (jj F.slot_str_ascii_iterator_next B.typeIs F.entry_str_ascii_iterator_next ?_ (F.args_str_ascii_iterator_next_1 _))))
 show ag _ _ (field (.ref it) 0 >>= _) _ _ s;refine aa (bf G D (x:=.str x t) rfl ?_);show ag _ _ (field (.ref it) 1 >>= _) _ _ s;refine aa (bf G D (x:=.int i 0) rfl ?_);simp only[gh,hx];refine aa (fE (aa (lH G D (by simp) (aa (wpAny_letGo ?_)))));refine Jo (by exact R) λ h' e J N=>?_
 apply bd;intro C;obtain⟨H,M,L⟩:=N;apply C;refine aa (pG (T:="StopIteration") (b:=true) ⟨H,M,L⟩ isSubtype_stop ?_);refine ah (O _ ?_);exact(lP 2)▸(xz.same (gf ..) (aO.mpr rfl)).trans (J.sub (m:=[it]) (by simp))
theorem xy:entryFor aX "set.update.loop"=some Builtin.«set.update.loop»:=lK (by kernel_rfl)
theorem X8 {h h':Heap}{a b:Addr}{x:Str}{t:Tok}{i:Nat}{T:String}(C:h.IsStrIter a T x t i)(D:ba b h h')(B:a≠b):h'.IsStrIter a T x t i:=by
 obtain⟨o,G,r⟩:=C;exact⟨o,(D.2 a B).trans G,r⟩
theorem W0 {a it:Addr}{x:Str}{t:Tok}{R:Result->ae->Prop}(D:a≠it)(f:A.handled=none):
  ∀(m i:Nat) (s:ae) (es:Array (Int×Value)) (ep:Nat) (H:SetTable) (S:Str->Bool) (n:Nat),i+m=x.cps.size->s.heap.get? a=some (up es ep H)->wE pg w es H S n->s.heap.IsStrIter it "str_ascii_iterator" x t i ->
   n+m<77->(∀c∈x.cps.toList.drop i,S ⟨#[c]⟩=false)->(x.cps.toList.drop i).Nodup ->
   (∀h' B pt wS,xz [a,it] 2 s.heap h'->h'.get? a=some (up B pt wS)->wE pg w B wS (λ k=>S k||(x.cps.toList.drop i).any λ c=>k==(⟨#[c]⟩:Str)) (n+m)->R (.ok (.ret .none)) {s with heap:=h',toks:=s.toks+2 * m}) ->
   codeAny (af pg w) A (.builtin "set.update.loop" ⟨[.ref a,.ref it],[]⟩) R s:=by
 intro m
 induction m with
 |zero=>
  intro i s es ep H S n j O F C Y M L q;refine gd xy ?_;unfold Builtin.«set.update.loop»;refine aa (Zm (by exact f) C (by rw[(Array.getElem?_eq_none)];lia) λ h' N=>ah ?_);refine q h' es ep H (N.sub (by simp)) (N.get (by simpa using D) O) (F.congr λ k=>?_);rw[List.drop_of_length_le (by simp;lia)]
  simp
 |succ m V=>
  intro i s es ep H S n j O F C Y M L q;have J:i<x.cps.size:=by lia
  have Q:x.cps[i]? = some x.cps[i]:=vi J;have VH:x.cps.toList.drop i=x.cps[i]::x.cps.toList.drop (i+1):=by
   rw[uS (by simpa using J)];simp
  rw[VH] at M L q;rw[c8] at L;refine gd xy ?_;unfold Builtin.«set.update.loop»;refine aa (wpAny_pyNext_ascii_item C Q λ o Bk iN=>?_);have gY:=(iN.2 a D).trans O;dsimp only;unfold setAdd;have G:(aW pg w).is (⟨#[x.cps[i]]⟩:Str) (.str ⟨#[x.cps[i]]⟩ s.toks)=true:=by simp[aW,Value.isStrOf]
  refine aa (aQ (aQ (aa ((aW pg w).pyHash G ?_))));refine Bd (s:={s with heap:=o,toks:=s.toks+1+1}) gY F (M _ (aN ..)) (by lia) λ I lh z9 z7 jH so Z=>?_
  refine ah ⟨lL _ (by decide +kernel),?_⟩;refine V (i+1) {s with heap:=I,toks:=s.toks+1+1} lh z9 z7 _ (n+1) (by lia) so Z (X8 Bk jH (Ne.symm D)) (by lia) (λ c T=>?_) L.2 λ h' B pt wS N v6 U=>?_
  .rw[M c (aT _ T),Bool.false_or,(decide_eq_false_iff_not)];intro e;have e:=congrArg Str.cps e;have:c=x.cps[i]:=by simpa using e
   exact L.1 (this▸T)
  .have g:xz [a,it] 2 s.heap h':=by
    have:=((xz.same iN (l:=[a,it]) (by simp)).trans (xz.same jH (l:=[a,it]) (by simp))).trans N
    simpa using this
   have d:wE pg w B wS (λ k=>S k||(x.cps[i]::x.cps.toList.drop (i+1)).any λ c=>k==(⟨#[c]⟩:Str)) (n+(m+1)):=by
    rw[show n+(m+1)=n+1+m by lia];refine U.congr λ k=>?_
    rw[List.any_cons,Bool.or_assoc]
    congr 2
   have:=q h' B pt wS g v6 d;have e:s.toks+1+1+2 * m=s.toks+2 * (m+1):=by lia
   show R _ {s with heap:=h',toks:=s.toks+1+1+2 * m};rw[e];exact this
theorem zl {Q:Bool->ae->Prop}(h:∀b,Q b s):ag (af pg w) A setsByText Q E s:=by
 unfold setsByText;exact aa (wpAny_askSetting (ah (h _)))
theorem P2 {Q:Value->ae->Prop}(h:∀led,Q (.ref s.heap.objs.size) {s with heap:=s.heap.push (up #[] 0 (.fresh 0 0 led))}):ag (af pg w) A (newSet (.type "frozenset")) Q E s:=by
 unfold newSet;refine aa (zl λ b=>?_);simp only[newObj];refine aa (wpAny_alloc (ah ?_));exact h (!b)
theorem Aq {a:Addr}{es:Array (Int×Value)}{ep:Nat}{t:SetTable}{B:Array (Int×Value)}{C:SetTable}{Q:Unit->ae->Prop}(D:s.heap.get? a=some (up es ep t))(hz:B.size<77)
  (h:∀h',ba a s.heap h'->h'.get? a=some (up B (ep+1) C)->Q () {s with heap:=h'}):ag (af pg w) A (storeSet a B C) Q E s:=by
 refine wpAny_storeSet_of D rfl (h _ (gf ..) ?_) (by rw[ak];exact ia hz rfl);have:=eG (Obj.putSet B C) D (by rw[putSet_of B C rfl];rfl);rw[putSet_of B C rfl] at this;exact this
theorem YP {a:Addr}{ep:Nat}{t:SetTable}{wanted M H:Nat}{Q:Unit->ae->Prop}(D:s.heap.get? a=some (up #[] ep t))(T:bw t 0 H)(U:e9 wanted<=128)(R:e9 wanted - 1=M)(c:fv (M+1))
  (h:∀h' C,ba a s.heap h'->h'.get? a=some (up #[] (ep+1) C)->bw C 0 M->Q () {s with heap:=h'}):ag (af pg w) A (setRelay a wanted) Q E s:=by
 unfold setRelay;refine aa (gj D rfl (T.fits (eb ..)) ?_);dsimp only;rw[if_neg (by rw[ak];lia)];obtain⟨C,B,e,J,L⟩:=FN c t.finger (t.movedTo M) t.led t.plain #[] (by simp);have so:B.toList=[]:=List.Perm.eq_nil (by simpa using L);refine aa ?_;show ag _ _ (do
  let some (t,B):=t.relaid (Array.map (λ x:Int×Value=>x.1) #[]) wanted|unsupported "internal:set-table-without-room"
  let es':=B.filterMap ((#[]:Array (Int×Value))[·]?)
  if es'.size != (#[]:Array (Int×Value)).size then unsupported "internal:set-table-lost-an-element"
  aq (es',t)) _ _ _
 unfold SetTable.relaid;rw[R,show Array.map (λ x:Int×Value=>x.1) #[] = #[] by simp,e];dsimp only;have O:B.filterMap ((#[]:Array (Int×Value))[·]?) = #[]:=by
  rw[<-(Array.toList_inj)];simp[so]
 rw[O];exact ah (Aq D (by show 0<77;decide) λ h' N G=>h h' C N G J)
theorem MU {r o:Addr}{es:Array (Int×Value)}{ep Iv:Nat}{t t0:SetTable}{S:Str->Bool}{n:Nat}{C:Sem Unit}{Q:Unit->ae->Prop}(R:r≠o)(O:s.heap.get? r=some (up #[] Iv t0))(G:bw t0 0 7)(I:s.heap.get? o=some (up es ep t))(F:wE pg w es t S n)
  (h0:0<n) (M:n<5\/(5<=n/\e9 (n * 2) - 1=Cl n/\e9 (n * 2)<=128))
  (h:∀h' pt J,ba r s.heap h'->h'.get? r=some (up es pt J)->wE pg w es J S n->Q () {s with heap:=h'}):ag (af pg w) A (setMerge r o C) Q E s:=by
 unfold setMerge;rw[if_neg (by simpa using R)];refine aa (gj I rfl F.fits ?_);dsimp only;rw[if_neg (by rw[(Array.isEmpty_iff_size_eq_zero),F.size];exact eF h0)];have B:∀(N:Heap) se L,ba r s.heap N->N.get? r=some (up #[] se L)->bw L 0 (Cl n)->ag (af pg w) A (do
   let (_,_,ts) <-setState r
   match ts.road t with
   | .slotForSlot=>storeSet r es {t with finger:=ts.finger,led:=ts.led&&t.led,moves:=ts.moves,plain:=ts.plain&&t.plain}
   | .clean=>do
    let (es,t) <-(do
     let some (t,order):=SetTable.laid ts.mask ts.finger ts.moves (led:=ts.led&&t.led) (plain:=ts.plain&&t.plain) (es.map (·.1))|unsupported "internal:set-table-without-room"
     let es':=order.filterMap (es[·]?)
     if es'.size != es.size then unsupported "internal:set-table-lost-an-element"
     aq (es',t))
    storeSet r es t
   | .oneByOne=>do
    for (h,x) in <-setWalkUnseen o [r] (some r) do
     let _ <-holding [x] (setAddHashed r x h)
     C
     if (<-setState o).2.1 != ep then unsupported "set.changed-during-merge") Q E {s with heap:=N}:=by
  intro N se L iN zn Y;refine aa (gj zn rfl (Y.fits (eb ..)) ?_);dsimp only;have Bf:L.road t = .slotForSlot:=by
   unfold SetTable.road;rw[Y.fill,Y.mask,F.tab.mask,F.tab.oh]
   simp
  rw[Bf];dsimp only;refine Aq zn (by rw[F.size];exact F.small) λ h' U T=>h h' (se+1) _ (iN.trans U) T ⟨F.el,F.mem,F.wv,F.size,⟨F.tab.mask,F.tab.size,F.tab.oh⟩,F.small⟩
 unfold setRoomFor;refine aa ?_;refine aa (gj O rfl (G.fits (by decide)) ?_);dsimp only;have D:t0.roomFor es.size=if 21<=n * 5 then some (n * 2) else none:=by
  unfold SetTable.roomFor;rw[G.fill,G.mask,G.size,F.size,lP]
 rw[D]
 rcases M with M|⟨M,Z,c⟩
 .rw[if_neg (by lia)];dsimp only;refine ah (B s.heap Iv t0 (Heap.SameBut.refl _ _) O ?_);rw[show Cl n=7 by unfold Cl;rw[if_pos M]];exact G
 .rw[if_pos (by lia)];dsimp only;refine YP O G c Z (zz n) λ h' J U T V=>B h' _ J U T V
theorem wE.one {S}(F:wE pg w es t S 1):∃k tk,es = #[((aW pg w).hash k,.str k tk)]/\∀B,S B=decide (B=k):=by
 obtain⟨e,G⟩:=Array.size_eq_one_iff.mp F.size;subst G;obtain⟨⟨k,C,H⟩,L⟩:x02:=F.el e (by simp);obtain⟨tk,J⟩:=Value.isStrOf_shape C;refine⟨k,tk,by rw[<-H,<-J],λ B=>?_⟩;rw[(iE),(F.mem B),decide_eq_true_eq]
 constructor
 .rintro ⟨D,Aa,q⟩
  obtain rfl:D=e:=by simpa using Aa
  exact(aW pg w).inj _ _ _ q C
 .rintro rfl
  exact⟨e,by simp,C⟩
theorem PN {α:Type}(f:Nat->Nat)(x:α):pickOrder f #[x] = #[x]:=by
 show pickOrder.go.match_1 _ [x][f 0 % 1]? _ _=_;rw[Nat.mod_one];rfl
theorem VU {o:Addr}{es:Array (Int×Value)}{ep:Nat}{t:SetTable}{S:Str->Bool}{Q:Array (Int×Value)->ae->Prop}(C:s.heap.get? o=some (up es ep t))(F:wE pg w es t S 1)(h:Q es s):ag (af pg w) A (setWalk o) Q E s:=by
 have B:¬es.size > 1:=by rw[F.size];decide
 k_delta "setWalk"
 refine aa (gj C rfl F.fits (aa (zl λ b=>?_)))
 cases b with
 |true=>
  refine iF (decide_eq_true rfl) ?_;refine aa (wpAny_askSetting (ah ?_));obtain⟨k,D,rfl,_⟩:=F.one;rw[PN];exact h
 |false=>
  refine da (decide_eq_false (by decide)) ?_;show ag (af pg w) A (if (!t.plain&&decide (es.size > 1))=true then (drawOrder es.size es.toList >>= λ l=>aq l.toArray) else ((if (!t.led&&decide (es.size > 1))=true then unsupported "set:maker-not-led" else aq ()) >>= λ _=>aq es)) Q E s;rw[decide_eq_false B,Bool.and_false,Bool.and_false,if_neg (by decide),if_neg (by decide)];exact aa (ah (ah h))
theorem G5 {o:Addr}{C:List Addr}{f:Option Addr}{es:Array (Int×Value)}{ep:Nat}{t:SetTable}{S:Str->Bool}{Q:Array (Int×Value)->ae->Prop}(B:s.heap.get? o=some (up es ep t))(F:wE pg w es t S 1)(h:Q es s):ag (af pg w) A (setWalkUnseen o C f) Q E s:=by
 k_delta "setWalkUnseen"
 refine aa (gj B rfl F.fits (aa (zl λ b=>?_)));dsimp only;refine iF (decide_eq_true (by rw[F.size];simp)) ?_;exact VU B F h
theorem U4 {r o:Addr}{es jT:Array (Int×Value)}{ep qH:Nat}{t to:SetTable}{S M:Str->Bool}{n:Nat}{C:Sem Unit}{Q:Unit->ae->Prop}(H:r≠o)(L:s.heap.get? r=some (up es ep t))(F:wE pg w es t S n)(N:s.heap.get? o=some (up jT qH to))(G:wE pg w jT to M 1)
  (h0:0<n) (Z:n+1<77) (D:¬Cl n * 3<=(n+1) * 5) (tU:∀k,M k=true->S k=false)
  (Se:∀(s':ae) (R:Unit->ae->Prop),s'.heap.get? o=some (up jT qH to)->R () s'->ag (af pg w) A C R E s')
  (h:∀h' B pt J,ba r s.heap h'->h'.get? r=some (up B pt J)->wE pg w B J (λ k=>S k||M k) (n+1)->Q () {s with heap:=h'}):ag (af pg w) A (setMerge r o C) Q E s:=by
 k_delta "setMerge"
 refine da (decide_eq_false (by simpa using H)) ?_;refine aa (gj N rfl G.fits ?_);dsimp only;refine da (decide_eq_false (by rw[(Array.isEmpty_iff_size_eq_zero),G.size];decide)) ?_
 k_delta "setRoomFor"
 refine aa (aa (gj L rfl F.fits ?_));dsimp only;have:t.roomFor jT.size=none:=by
  k_delta "roomFor"
  rw[F.tab.fill,F.tab.mask,G.size,if_neg D]
 rw[this];dsimp only;refine ah (aa (gj L rfl F.fits ?_));dsimp only;have Bf:t.road to = .oneByOne:=by
  k_delta "road"
  rw[F.tab.fill,if_pos (by simp;exact eF h0)]
 rw[Bf];dsimp only;obtain⟨k,d,V,O⟩:=G.one;have U:S k=false:=tU k (by rw[O];simp);refine aa (G5 N G ?_);subst V;rw[<-Array.forIn_toList];simp only[lN,List.forIn_nil];refine aa (aa (aa (aQ (Bd L F U Z λ h' B pt J T I Y=>?_))));have v6:=(T.2 o (Ne.symm H)).trans N;refine aa (Se _ _ v6 (aa (gj (s:={s with heap:=h'}) v6 rfl G.fits ?_)));dsimp only;refine da (decide_eq_false (by simp)) ?_;refine ah (ah (ah (h h' B pt J T I (Y.congr λ c=>?_))));rw[O]
end
theorem IW:isSubtype (.type "frozenset") (.type "set")=aq false:=by rw[fD];kernel_rfl
theorem NR:isSubtype (.type "frozenset") (.type "frozenset")=aq true:=by rw[fD];kernel_rfl
theorem WI:entryFor aX "frozenset.__or__"=some Builtin.«frozenset.__or__»:=lK (by kernel_rfl)
theorem Zn:entryFor aX "frozenset.__sub__"=some Builtin.«frozenset.__sub__»:=lK (by kernel_rfl)
section
variable {E:Value->ae->Prop}{s:ae}
theorem mh {a:Addr}(B:s.heap.get? a=some (up es ep t)):s.TypeIs (.ref a) "frozenset":=⟨_,B,rfl⟩
theorem n8 {v:Value}{Q:Bool->ae->Prop}(B:s.TypeIs v "frozenset")(h:Q true s):ag (af pg w) A (Builtin.Frozenset.isAnySet v) Q E s:=by
 unfold Builtin.Frozenset.isAnySet;unfold orM;refine aa (pG B IW ?_);show ag _ _ (isInstance v (.type "frozenset")) _ _ _;exact pG B NR h
theorem IQ {a:Addr}{es:Array (Int×Value)}{ep:Nat}{t:SetTable}{S:Str->Bool}{n:Nat}{Q:Value->ae->Prop}(G:s.heap.get? a=some (up es ep t))(F:wE pg w es t S n)
  (h0:0<n) (O:n<5\/(5<=n/\e9 (n * 2) - 1=Cl n/\e9 (n * 2)<=128))
  (h:∀h' pt B,xz [] 1 s.heap h'->h'.get? s.heap.objs.size=some (up es pt B)->wE pg w es B S n->Q (.ref s.heap.objs.size) {s with heap:=h'}):ag (af pg w) A (Builtin.Frozenset.copyOf a) Q E s:=by
 unfold Builtin.Frozenset.copyOf Builtin.Frozenset.baseOf;refine aa (aa (pG (mh G) IW ?_));rw[if_neg (by decide)];refine ah (aa (P2 λ D=>?_));unfold Builtin.Frozenset.addrOf;refine aa (ah (aa ?_));have C:=bP G;refine MU (s:={s with heap:=s.heap.push (up #[] 0 (.fresh 0 0 D))}) (eF C) (cj _ rfl) ⟨rfl,rfl,rfl⟩ (bH _ G) F h0 O λ h' pt B J L N=>ah (h h' pt B ?_ L N)
 refine⟨by rw[J.1];exact(xz.push [] s.heap _).1,λ b H M=>(J.2 b (aS H)).trans ((xz.push [] s.heap _).2 b H M)⟩
theorem OU {a b:Addr}{es jT:Array (Int×Value)}{ep qH:Nat}{t to:SetTable}{S J:Str->Bool}{n:Nat}{R:Result->ae->Prop}(L:a≠b)(N:s.heap.get? a=some (up es ep t))(F:wE pg w es t S n)(H:s.heap.get? b=some (up jT qH to))(G:wE pg w jT to J 1)
  (h0:0<n) (d:n<5\/(5<=n/\e9 (n * 2) - 1=Cl n/\e9 (n * 2)<=128)) (Q:n+1<77) (C:¬Cl n * 3<=(n+1) * 5) (tU:∀k,J k=true->S k=false)
  (h:∀h' B pt D,xz [] 1 s.heap h'->h'.get? s.heap.objs.size=some (up B pt D)->wE pg w B D (λ k=>S k||J k) (n+1)->R (.ok (.ret (.ref s.heap.objs.size))) {s with heap:=h'}):
  codeAny (af pg w) A (.builtin "frozenset.__or__" ⟨[.ref a,.ref b],[]⟩) R s:=by
 refine gd WI ?_
 k_delta "frozenset.__or__"
 k_delta "binary"
 k_delta "slot1"
 refine aa (m:=do
  let (self,[x]) <-slotArgs "__or__" 1 ⟨[.ref a,.ref b],[]⟩|unsupported "internal:set-binding"
  return (self,x)) (jk (a:=(.ref a,.ref b)) (by rfl) ?_)
 dsimp only;simp only[rF,if_false]
 k_delta "andM"
 refine aa (aa (n8 (mh N) ?_));show ag _ _ (Builtin.Frozenset.isAnySet (.ref b)) _ _ _;refine n8 (mh H) ?_;rw[Bool.not_true,if_neg (by decide)]
 k_delta "union"
 k_delta "addrOf"
 refine aa (ah (aa (aa (IQ N F h0 d λ e se i M gY Z=>?_))));have qT:=bP H;have FM:=M.get (by simp) H;refine iF (decide_eq_true (by simpa using (Ne.symm L))) ?_
 k_delta "updateFrom";k_delta "merge"
 refine aa (ah (aa (aQ (aa (n8 (mh FM) ?_)))));refine iF (decide_eq_true rfl) ?_
 k_delta "addrOf"
 refine aa (ah (aa (wpAny_setEpoch_of FM rfl G.fits ?_)));refine U4 (s:={s with heap:=e}) (eF qT) gY Z FM G h0 Q C tU (λ f g iS V=>?_) λ h' B pt D T I Y=>?_
 .k_delta "unchanged"
  refine aa (wpAny_setEpoch_of iS rfl G.fits ?_);refine da (decide_eq_false (by simp)) ?_;exact ah V
 .refine ah (ah (h h' B pt D ?_ I Y));exact⟨by rw[T.1];exact M.1,λ c O U=>(T.2 c (aS O)).trans (M.2 c O U)⟩
end
theorem HI {α:Type}(xs:Array α)(i:Nat)(h:i<xs.size):(SetTable.eraseAt xs i).toList=xs.toList.take i++xs.toList.drop (i+1)/\(SetTable.eraseAt xs i).size=xs.size - 1:=by
 unfold SetTable.eraseAt
 constructor
 .rw[Array.toList_append,Array.toList_extract,Array.toList_extract];simp only[List.extract,List.drop_zero,Nat.sub_zero]
  congr 1
  rw[ve (by simp)]
 .rw[Array.size_append,Array.size_extract,Array.size_extract,Nat.min_self,Nat.sub_zero,nu (dq h),iG i 1,<-Nat.sub_sub,Nat.add_sub_cancel' (Nat.le_sub_one_of_lt h)]
section
variable {E:Value->ae->Prop}{s:ae}
theorem Of {a:Addr}{es:Array (Int×Value)}{ep:Nat}{t:SetTable}{S:Str->Bool}{n:Nat}{k:Str}{tk:Tok}{Q:Bool->ae->Prop}(O:s.heap.get? a=some (up es ep t))(F:wE pg w es t S n)(V:S k=true)
  (h:∀h' H pt M,ba a s.heap h'->h'.get? a=some (up H pt M)->EQ pg w (up H pt M) (λ N=>S N&&decide (N≠k))->M.fits H.size=true->M.mask=Cl n->M.dummies.size=1->Q true {s with heap:=h'}):
  ag (af pg w) A (setDiscardHashed a (.str k tk) ((aW pg w).hash k)) Q E s:=by
 have L:(aW pg w).is k (.str k tk)=true:=by simp[aW,Value.isStrOf]
 have c:es.size<scanBound:=by rw[F.size];have:=F.small;show n<4096;exact ww this rfl
 unfold setDiscardHashed setFind setFindIn;refine aa (aa (gj O rfl F.fits ?_));dsimp only;rw[byScan_of rfl c F.el,if_pos rfl];refine aa (fE (aa (wpAny_setScan_of L O rfl F.fits F.el ?_)))
 cases Z:List.findIdx? (λ e=>(aW pg w).is k e.2) es.toList with
 |none=>
  obtain⟨e,C,g⟩:=(F.mem k).mp V;have:=List.findIdx?_eq_none_iff.mp Z e C;rw[g] at this;cases this
 |some j=>
  apply bd;intro Y;obtain⟨d,sd,_⟩:=List.findIdx?_eq_some_iff_getElem.mp Z;apply Y;have pZ:j<es.size:=by simpa using d
  dsimp only;refine ah ?_;rw[lP];dsimp only;refine aa (gj O rfl F.fits ?_);dsimp only;apply bd;intro Y;obtain⟨I,J⟩:x02:=HI es j pZ;have B:es.toList=es.toList.take j++es.toList[j]::es.toList.drop (j+1):=by
   rw[<-uS,List.take_append_drop]
  have gZ:=F.wv;rw[B,List.pairwise_append,rN] at gZ;obtain⟨_,⟨xF,_⟩,Rn⟩:x03:=gZ;apply Y;have IZ:j<t.place.size:=by rw[F.tab.size,<-F.size];exact pZ
  have T:t.drop j={t with place:=SetTable.eraseAt t.place j,dummies:=SetTable.insertAt t.dummies (SetTable.below t.dummies t.place[j]) t.place[j]}:=by
   unfold SetTable.drop;rw[vi IZ]
  have mq:(t.drop j).place.size=es.size - 1:=by rw[T];show(SetTable.eraseAt t.place j).size=_;rw[(HI t.place j IZ).2,F.tab.size,F.size]
  have vU:(t.drop j).dummies.size=1:=by rw[T];show(SetTable.insertAt _ _ _).size=_;rw[zc,F.tab.oh];rfl
  have qm:(t.drop j).mask=Cl n:=by rw[T];exact F.tab.mask
  have D:(t.drop j).fits (SetTable.eraseAt es j).size=true:=by
   unfold SetTable.fits SetTable.fill;rw[J,mq,vU,qm,F.size];have:=F.small;have:n<=Cl n:=by unfold Cl;split<;>(try split)<;>lia
   have:0<n:=by rw[<-F.size];exact av (eb ..) pZ
   simp;lia
  refine aa (Aq O (by rw[J,F.size];have:=F.small;exact c7 (Nat.sub_le ..) this) λ h' m f=>aa (wpAny_point (ah ?_)));refine h h' _ (ep+1) _ m f ⟨_,_,_,rfl,λ e C=>F.el e ?_,λ N=>?_,by rw[J,F.size];have:=F.small;lia,D⟩ D qm vU
  .rw[I] at C;rw[B]
   rcases be.mp C with q|q
   .exact iI _ q
   .exact nL _ (aT _ q)
  .rw[fG,decide_eq_true_eq,(F.mem N),I]
   constructor
   .rintro ⟨⟨e,C,q⟩,R⟩
    refine⟨e,?_,q⟩;rw[B] at C
    rcases be.mp C with r|r
    .exact iI _ r
    .rcases aG.mp r with rfl|r
     .exact absurd ((aW pg w).inj _ _ _ q sd) R
     .exact nL _ r
   .rintro ⟨e,C,q⟩
    rcases be.mp C with r|r
    .refine⟨⟨e,by rw[B];exact iI _ r,q⟩,λ G=>?_⟩;subst G;exact Rn e r _ (aN ..) _ q sd
    .refine⟨⟨e,by rw[B];exact nL _ (aT _ r),q⟩,λ G=>?_⟩;subst G;exact xF e r _ sd q
theorem vR {a:Addr}{es:Array (Int×Value)}{ep:Nat}{t:SetTable}{S:Str->Bool}{n:Nat}{Q:Nat->ae->Prop}(B:s.heap.get? a=some (up es ep t))(F:wE pg w es t S n)(h:Q n s):ag (af pg w) A (Builtin.Frozenset.sizeOf a) Q E s:=by
 unfold Builtin.Frozenset.sizeOf setEntries;exact aa (aa (gj B rfl F.fits (ah (ah (F.size.symm▸h)))))
theorem Sa {a b:Addr}{es jT:Array (Int×Value)}{ep qH:Nat}{t to:SetTable}{S L:Str->Bool}{n:Nat}{R:Result->ae->Prop}(f:a≠b)(N:s.heap.get? a=some (up es ep t))(F:wE pg w es t S n)(G:s.heap.get? b=some (up jT qH to))(C:wE pg w jT to L 1)
  (g:n<5\/(5<=n/\e9 (n * 2) - 1=Cl n/\e9 (n * 2)<=128)) (d:7<n) (J:∀k,L k=true->S k=true)
  (h:∀h' B pt M,xz [] 1 s.heap h'->h'.get? s.heap.objs.size=some (up B pt M)->EQ pg w (up B pt M) (λ k=>S k && !L k)->R (.ok (.ret (.ref s.heap.objs.size))) {s with heap:=h'}):
  codeAny (af pg w) A (.builtin "frozenset.__sub__" ⟨[.ref a,.ref b],[]⟩) R s:=by
 refine gd Zn ?_
 k_delta "frozenset.__sub__"
 k_delta "binary"
 k_delta "slot1"
 refine aa (m:=do
  let (self,[x]) <-slotArgs "__sub__" 1 ⟨[.ref a,.ref b],[]⟩|unsupported "internal:set-binding"
  return (self,x)) (jk (a:=(.ref a,.ref b)) (by rfl) ?_)
 dsimp only;simp only[rF,if_false]
 k_delta "andM"
 refine aa (aa (n8 (mh N) ?_));show ag _ _ (Builtin.Frozenset.isAnySet (.ref b)) _ _ _;refine n8 (mh G) ?_;refine da rfl ?_
 k_delta "difference";k_delta "addrOf"
 refine aa (ah (aa (aa (n8 (mh G) ?_))));dsimp only;refine da rfl (aa (ah ?_));refine da rfl (iF rfl ?_);refine aa (vR G C (aa (vR N F ?_)));refine iF (decide_eq_true (by lia)) ?_;refine aa (fE (aa (IQ N F (av (eb ..) d) g λ q se p O gY Y=>?_)));have qT:=bP G;have FM:=O.get (by simp) G;refine aa (ah (aa (aQ ?_)))
 k_delta "differenceUpdate"
 refine da (decide_eq_false (by simpa using aS qT)) ?_;refine aa (n8 (mh FM) ?_);refine iF (decide_eq_true rfl) ?_
 k_delta "addrOf"
 refine aa (ah (aa (vR FM C (aa (vR gY Y ?_)))));refine da (decide_eq_false (by lia)) ?_;refine aa (wpAny_setEpoch_of FM rfl C.fits (aa (aQ (aa (G5 FM C ?_)))));apply bd;intro j;obtain⟨k,r,o,U⟩:=C.one;apply j;subst o;rw[<-Array.forIn_toList];simp only[lN,List.forIn_nil];refine aa (aa (aa (aQ (Of gY Y (J k (by rw[U];simp)) λ h' B pt M T Z V H qm vU=>?_))));have gr:=(T.2 b (aS qT)).trans FM
 k_delta "unchanged"
 refine aa (aa (wpAny_setEpoch_of (s:={s with heap:=h'}) gr rfl C.fits ?_));refine da (decide_eq_false (by simp)) ?_;refine ah (ah (ah (ah ?_)))
 k_delta "setTidy"
 refine aa (gj (s:={s with heap:=h'}) Z rfl H ?_);dsimp only;refine da (decide_eq_false (by
  unfold SetTable.tooManyDummies;rw[vU,qm];have:7<=Cl n / 4\/Cl n=7:=by unfold Cl;split<;>(try split)<;>lia
  have:Cl n≠7:=by unfold Cl;rw[if_neg (by lia)];split<;>lia
  simp;lia)) ?_
 refine ah (ah (ah (h h' B pt M ?_ Z ?_)))
 .exact⟨by rw[T.1];exact O.1,λ c Q I=>(T.2 c (aS Q)).trans (O.2 c Q I)⟩
 .have:(λ D=>S D && !L D)=λ D=>S D&&decide (D≠k):=by funext D;rw[U];simp
  rw[this];exact V
theorem L8 {it:Addr}{x left step:Int}{Q:Option Value->ae->Prop}(R:A.handled=none)(B:IsRangeIter s.heap it x left step)(C:left<=0)
  (O:∀h',xz [] 2 s.heap h'->Q none {s with heap:=h'}):ag (af pg w) A (pyNext (.ref it)) Q E s:=by
 have D:s.TypeIs (.ref it) "range_iterator":=⟨_,B,rfl⟩;unfold pyNext;refine aa (wpAny_attempt (nI (name:=gT "__next__") D F.slot_range_iterator_next
  (jj F.slot_range_iterator_next D F.entry_range_iterator_next ?_ (F.args_range_iterator_next_1 _))))
 show ag _ _ (field (.ref it) 0 >>= _) _ _ s;refine aa (bf B rfl (x:=bx x) rfl ?_);show ag _ _ (field (.ref it) 1 >>= _) _ _ s;refine aa (bf B rfl (x:=bx left) rfl ?_);show ag _ _ (field (.ref it) 2 >>= _) _ _ s;refine aa (bf B rfl (x:=bx step) rfl ?_);show ag _ _ (if left<=0 then _ else _) _ _ s;rw[if_pos C];refine aa (fE (aa ?_));refine Jo (by exact R) λ h' e H N=>?_
 apply bd;intro M;obtain⟨G,L,J⟩:=N;apply M;exact aa (pG (T:="StopIteration") (b:=true) ⟨G,L,J⟩ isSubtype_stop (ah (O _ H)))
theorem FR {a:Addr}{g n:Nat}{H:GenState}{P:Nat->ae->ae->Prop}{Y:Protocol}{Q:Option Value->ae->Prop}(f:A.handled=none)(L:s.heap.NoLimit)(D:A.depth<recursionLimit)
  (G:s.heap.IsGen a g) (mV:s.gens[g]? = some H)
  (C:H.Goes (af pg w) A.in1 (λ n B r s₁=>r = .ok .next/\P n B s₁) Y n (.send .none) (s.setGen g .running))
  (N:∀v s₁ fP,Y (n - 1) (s.setGen g .running) v s₁ (λ I cA=>match n with|0=>False|m+1=>fP.Goes (af pg w) A.in1 (λ n B r s₁=>r = .ok .next/\P n B s₁) Y m I cA)->Q (some v) (s₁.setGen g fP))
  (U:∀s₁,P n (s.setGen g .running) s₁->∀h',xz [] 2 s₁.heap h'->Q none {s₁.setGen g .finished with heap:=h'}):ag (af pg w) A (pyNext (.ref a)) Q E s:=by
 unfold pyNext;refine aa (wpAny_attempt (nI (name:=gT "__next__") G.typeIs slot_gen_next (jj slot_gen_next G.typeIs entry_gen_next ?_ (args_gen_next _))));show ag _ A.in1 (Builtin.Generator.genWake (.ref a) (.send .none)) _ _ s;unfold Builtin.Generator.genWake;refine aa (aQ (wpAny_genNumber G (aa (wpAny_genState mV ?_))))
 cases H with
 |running=>exact C.elim
 |finished=>exact C.elim
 |_=>
  refine aa (wpAny_roomToWake L D ?_);show ag _ A.in1 (.resume g (.send .none) [] _) _ _ s;refine wpAny_resume mV C (λ x s₁ O=>?_) (λ v s₁ fP d=>?_)
  .obtain⟨rfl,Z⟩:x02:=O;show ag _ A.in1 (newExc (.type "StopIteration") [] >>= _) _ _ _;refine aa (G6 λ h' e G M=>aa (wpAny_raiseNew_none (by exact f) ?_));apply bd;intro c;obtain⟨J,V,R⟩:=M;apply c;exact aa (pG (T:="StopIteration") (b:=true) ⟨J,V,R⟩ isSubtype_stop (ah (U s₁ Z _ G)))
  .exact ah ⟨v,rfl,ah (N v s₁ fP d)⟩
def GI (h₀:Heap)(I C a:Addr)(N i:Nat)(h:Heap):Prop:=
 IsRangeIter h I i ((N:Int) - i) 1/\(∃m,h.Ns C m)/\∀b o,b∉[I,C,a]->h₀.get? b=some o->h.get? b=some o
theorem GI.same {h₀ h h':Heap}{I C a:Addr}{N i:Nat}(x:GI h₀ I C a N i h)(B:ba a h h')(J:I≠a)(M:C≠a):GI h₀ I C a N i h':=by
 obtain⟨G,⟨m,L⟩,H⟩:x03:=x;exact⟨(B.2 I J).trans G,⟨m,L.sameBut B M⟩,λ b o D e=>(B.2 b λ q=>D (by simp[q])).trans (H b o D e)⟩
def tS (I:Addr):Nat->ae->ae->Prop:=λ n s₀ s₁=>n=0/\∃h',s₁={s₀ with heap:=h'}/\xz [I] 2 s₀.heap h'
def tH (h₀:Heap)(I C a:Addr)(N:Nat):Protocol:=λ m s₀ v s N7=>
 (∃tk,v = .str ⟨#[N - 1 - m]⟩ tk)/\(∃h',s={s₀ with heap:=h',toks:=s₀.toks+3}/\xz [I,C] 0 s₀.heap h'/\GI h₀ I C a N (N - m) h')/\∀cA,GI h₀ I C a N (N - m) cA.heap->N7 (.send .none) cA
section
variable {h₀:Heap}{I C a:Addr}{N:Nat}{ms:aB}{elt iter:aF}{x:Str}{px pos:Pos}{scope:Scope}
theorem V5 (u:A.handled=none)(tT:I≠C)(qN:I≠a)(sy:C≠a)(R:ms.locals=C)(hx:ms.kindOf x=some .local)(k:(ms.scope.kind==.class||(ms.scope.kind==.module&&ms.locals != ms.globals))=false)(M:ms.scope.isCoroutine=false)
  (tc:∀(T:aD) (V:Value->ae->Prop) (Q:Value->ae->Prop) (i:Nat) (tk:Tok) (s₂:ae) m₂,T.handled=none->i<N->s₂.heap.Ns C m₂->m₂ x=some (.int i tk)->(∀b o,b∉[I,C,a]->h₀.get? b=some o->s₂.heap.get? b=some o) ->
   Q (.str ⟨#[i]⟩ s₂.toks) {s₂ with toks:=s₂.toks+1}->ag (af pg w) T (eval elt ms) Q V s₂):
  ∀(n i:Nat) (s:ae),i+n=N->GI h₀ I C a N i s.heap->Seg (af pg w) A (λ n G r s₁=>r = .ok .next/\tS I n G s₁) (tH h₀ I C a N) n s (.compLoop (.GeneratorExp elt [⟨.Name x px,iter,[],0⟩] scope pos) 0 (.ref I) .none ms)
   ((af pg w).den (.compLoop (.GeneratorExp elt [⟨.Name x px,iter,[],0⟩] scope pos) 0 (.ref I) .none ms)) [] s:=by
 intro n;have DZ:(A.over (.compLoop (.GeneratorExp elt [⟨.Name x px,iter,[],0⟩] scope pos) 0 (.ref I) .none ms) []).handled=none:=u
 induction n with
 |zero=>
  intro i s j D;obtain⟨L,Z,O⟩:x03:=D;show Seg _ A _ _ _ s _ ((compTurn (.GeneratorExp elt [⟨.Name x px,iter,[],0⟩] scope pos) 0 (.ref I) .none ms).onRaise (leaving ms)) [] s;rw[compTurn_gen,Sem.onRaise_eq_wrap];refine kh (a9 ?_);refine kh (L8 DZ L (by lia) λ f D=>?_);exact seg_end (.ok .next) ⟨rfl,rfl,f,rfl,D.sub (by simp)⟩
 |succ n g=>
  intro i s j D;obtain⟨L,⟨m,Z⟩,O⟩:x03:=D;show Seg _ A _ _ _ s _ ((compTurn (.GeneratorExp elt [⟨.Name x px,iter,[],0⟩] scope pos) 0 (.ref I) .none ms).onRaise (leaving ms)) [] s;rw[compTurn_gen,Sem.onRaise_eq_wrap];refine kh (a9 ?_);refine kh (wpAny_pyNext_range_item L (by lia) λ z T6 iN=>?_);refine kh (jk (rfl:j3 (.Name x px) (.ref I) (.int i s.toks)=aq ()) ?_);refine kh (wpAny_assign_Name (wpAny_storeName_local hx (R▸Z.sameBut iN (Ne.symm tT)) (λ B J jH=>?_) k));rw[R] at J jH;have P8:IsRangeIter B I ((i+1:Nat):Int) ((N:Int) - (i+1:Nat)) 1:=by
   have e1:(((i+1:Nat):Int))=(i:Int)+1:=by lia
   have e2:(N:Int) - ((i:Int)+1)=(N:Int) - i - 1:=by lia
   rw[e1,e2];exact(jH.2 I tT).trans T6
  have Y:∀b o,b∉[I,C,a]->h₀.get? b=some o->B.get? b=some o:=λ b o H e=>(jH.2 b λ q=>H (by simp[q])).trans ((iN.2 b λ q=>H (by simp[q])).trans (O b o H e))
  have NB:xz [I,C] 0 s.heap B:=(xz.same iN (by simp)).trans (xz.same jH (by simp));simp only[List.forIn_nil];refine kh (ah ?_);rw[if_pos rfl];have d:∀v,yieldOut ms v=yieldValue v:=λ v=>by simp only[yieldOut,M,rF,if_false]
  simp only[d];rw[Sem.bind_eq_wrap',Sem.bind_eq_wrap',Sem.wrap_wrap,Sem.wrap_wrap];have c:(λ y=>if y=x then some (Value.int (i:Int) s.toks) else m y) x=some (.int i s.toks):=if_pos rfl;refine seg_wrap (tc _ _ _ i s.toks {s with heap:=B,toks:=s.toks+1+1} _ DZ (by lia) J (by simp) Y ?_);have p:GI h₀ I C a N (N - n) B:=by
   rw[show N - n=i+1 by lia];exact⟨P8,⟨_,J⟩,Y⟩
  refine seg_at (seg_yield rfl rfl rfl ⟨⟨_,by rw[show N - 1 - n=i by lia]⟩,⟨B,rfl,NB,p⟩,λ cA pX=>?_⟩);rw[show N - n=i+1 by lia] at pX;exact seg_again rfl (g (i+1) cA (by lia) pX)
end
end
section
variable {E:Value->ae->Prop}{s:ae}
variable {h₀:Heap}{I C a ga:Addr}{N:Nat}{ms:aB}{elt iter:aF}{x:Str}{px pos:Pos}{scope:Scope}
theorem Ox (R:A.handled=none)(tT:I≠C)(qN:I≠a)(sy:C≠a)(O:ms.locals=C)(hx:ms.kindOf x=some .local)(M:(ms.scope.kind==.class||(ms.scope.kind==.module&&ms.locals != ms.globals))=false)(G:ms.scope.isCoroutine=false)
  (tc:∀(J:aD) (L:Value->ae->Prop) (Q:Value->ae->Prop) (i:Nat) (tk:Tok) (s₂:ae) m₂,J.handled=none->i<N->s₂.heap.Ns C m₂->m₂ x=some (.int i tk)->(∀b o,b∉[I,C,a]->h₀.get? b=some o->s₂.heap.get? b=some o) ->
   Q (.str ⟨#[i]⟩ s₂.toks) {s₂ with toks:=s₂.toks+1}->ag (af pg w) J (eval elt ms) Q L s₂) (s:ae) (H:GI h₀ I C a N 0 s.heap):
  Seg (af pg w) A (λ n D r s₁=>r = .ok .next/\tS I n D s₁) (tH h₀ I C a N) N s (.compStart (.GeneratorExp elt [⟨.Name x px,iter,[],0⟩] scope pos) 0 (.ref I) .none ms)
   ((af pg w).den (.compStart (.GeneratorExp elt [⟨.Name x px,iter,[],0⟩] scope pos) 0 (.ref I) .none ms)) [] s:=by
 have B:=V5 (pg:=pg) (w:=w) (A:=A) (iter:=iter) (px:=px) (scope:=scope) (pos:=pos) R tT qN sy O hx M G tc N 0 s (by lia) H;show Seg _ A _ _ _ s _ ((compStart (.GeneratorExp elt [⟨.Name x px,iter,[],0⟩] scope pos) 0 (.ref I) .none ms).onRaise (leaving ms)) [] s;unfold compStart;rw[Sem.onRaise_eq_wrap];show Seg _ A _ _ _ s _ ((ask >>= _).wrap _ _ _ _) [] s;refine kh (wpAny_askSetting ?_)
 split
 .exact seg_again rfl B
 .refine kh (fE ?_);show Seg _ A _ _ _ s _ ((dv iter.pos >>= _).wrap _ _ _ _) [] s;exact kh (a9 (kh (wpAny_pyIter_rangeiter H.1 (seg_again rfl B))))
theorem Xm (hA:A.handled=none)(D:(A.under (.builtin "set.update.loop" ⟨[.ref a,.ref ga],[]⟩)).depth<recursionLimit)(tT:I≠C)(qN:I≠a)(sy:C≠a)(z:ga∉[I,C,a])(de:cStatics∉[I,C,a])
  (G0:h₀.IsGen ga 0) (L0:h₀.NoLimit) {R:Result->ae->Prop}:
  ∀(m i:Nat) (s:ae) (d:GenState) (es:Array (Int×Value)) (ep:Nat) (Z:SetTable) (S:Str->Bool) (n:Nat),i+m=N->s.heap.get? a=some (up es ep Z)->wE pg w es Z S n->GI h₀ I C a N i s.heap->s.gens = #[d] ->
   (∀cA:ae,GI h₀ I C a N i cA.heap->d.Goes (af pg w) (A.under (.builtin "set.update.loop" ⟨[.ref a,.ref ga],[]⟩)).in1 (λ n Q r s₁=>r = .ok .next/\tS I n Q s₁) (tH h₀ I C a N) m (.send .none) cA) ->
   n+m<77->(∀j,i<=j->j<N->S ⟨#[j]⟩=false) ->
   (∀h' G pt wS,xz [a,I,C] 4 s.heap h'->h'.get? a=some (up G pt wS)->wE pg w G wS (λ k=>S k||(j9 i m).any λ c=>k==(⟨#[c]⟩:Str)) (n+m)->R (.ok (.ret .none)) {s with heap:=h',gens:=#[.finished],toks:=s.toks+4 * m}) ->
   codeAny (af pg w) A (.builtin "set.update.loop" ⟨[.ref a,.ref ga],[]⟩) R s:=by
 intro m;have H:∀{i h},GI h₀ I C a N i h->h.IsGen ga 0/\h.NoLimit:=λ{i h} g=>by
  apply bd;intro M;obtain⟨o,nm,qn,U,r⟩:x32:=G0;obtain⟨mc,p,yH⟩:=L0;apply M;exact⟨⟨o,nm,qn,g.2.2 _ _ z U,r⟩,⟨mc,p.at' λ o e=>g.2.2 _ _ de e,yH⟩⟩
 induction m with
 |zero=>
  intro i s d es ep Z S n hi U F L mV J hn f q;refine gd xy ?_;unfold Builtin.«set.update.loop»;refine aa (FR (P:=tS I) (Y:=tH h₀ I C a N) (n:=0) (by exact hA) (H L).2 D (H L).1 (by rw[mV];rfl) (J _ L) (λ v s₁ fP X=>?_) λ s₁ y h' ik=>ah ?_)
  .apply bd;intro M;obtain⟨_,⟨B,rfl,_,O⟩,V⟩:x03:=X;apply M;exact(V {s with heap:=B} O).elim
  .apply bd;intro M;obtain⟨_,B,rfl,Go⟩:x0212:=y;apply M;have Go:xz [I] 2 s.heap B:=Go;have ik:xz [] 2 B h':=ik;have g:xz [a,I,C] 4 s.heap h':=(Go.sub (by simp)).trans (ik.sub (by simp));have:=q h' es ep Z g ?_ (F.congr λ k=>by simp)
   .have e:(({s.setGen 0 .running with heap:=B}:ae).setGen 0 .finished).gens = #[.finished]:=by
     show((s.gens.setIfInBounds 0 GenState.running).setIfInBounds 0 GenState.finished)=_;rw[mV];rfl
    show R _ ⟨h',(({s.setGen 0 .running with heap:=B}:ae).setGen 0 .finished).gens,s.drawn,s.toks,s.os⟩;rw[e];exact this
   .have e1:=Go.get (a:=a) (by simpa using Ne.symm qN) U;exact ik.get (by simp) e1
 |succ m ih=>
  intro i s d es ep Z S n hi U F L mV J hn f q;refine gd xy ?_;unfold Builtin.«set.update.loop»;refine aa (FR (P:=tS I) (Y:=tH h₀ I C a N) (n:=m+1) (by exact hA) (H L).2 D (H L).1 (by rw[mV];rfl) (J _ L) (λ v s₁ fP X=>?_) λ s₁ y h' ik=>absurd y.1 (Nat.succ_ne_zero m));apply bd;intro M;obtain⟨⟨tk,rfl⟩,⟨B,rfl,O,GN⟩,V⟩:x03:=X;apply M;rw[show N - 1 - (m+1 - 1)=i by lia];rw[show N - (m+1 - 1)=i+1 by lia] at GN V;have O:xz [I,C] 0 s.heap B:=O;have dG:a∉[I,C]:=by simp only[aG,e7,or_false,not_or];exact⟨Ne.symm qN,Ne.symm sy⟩
  have gY:=O.get dG U;have e:(({s.setGen 0 .running with heap:=B,toks:=s.toks+3}:ae).setGen 0 fP)={s with heap:=B,gens:=#[fP],toks:=s.toks+3}:=by
   show Shared.mk B ((s.gens.setIfInBounds 0 GenState.running).setIfInBounds 0 fP) s.drawn (s.toks+3) s.os=_;rw[mV];rfl
  have e':(({s.setGen 0 .running with heap:=B,toks:=(s.setGen 0 .running).toks+3}:ae).setGen 0 fP)={s with heap:=B,gens:=#[fP],toks:=s.toks+3}:=e;rw[e'];dsimp only;unfold setAdd;have T:(aW pg w).is (⟨#[i]⟩:Str) (.str ⟨#[i]⟩ tk)=true:=by simp[aW,Value.isStrOf]
  refine aa (aQ (aQ (aa ((aW pg w).pyHash T ?_))));refine Bd (s:={s with heap:=B,gens:=#[fP],toks:=s.toks+3+1}) gY F (f i (by lia) (by lia)) (by lia) λ u lh z9 z7 jH so F2=>?_
  refine ah ⟨lL _ (by decide +kernel),?_⟩;refine ih (i+1) {s with heap:=u,gens:=#[fP],toks:=s.toks+3+1} fP lh z9 z7 _ (n+1) (by lia) so F2 (GN.same jH qN sy) rfl (λ cA pX=>V cA pX) (by lia) (λ j B u=>?_) λ h' G pt wS ik v6 F'=>?_
  .rw[f j (by lia) u,Bool.false_or,(decide_eq_false_iff_not)];intro e;have e:=congrArg Str.cps e;have:j=i:=by simpa using e
   lia
  .have g:xz [a,I,C] 4 s.heap h':=by
    have:=((O.sub (m:=[a,I,C]) (by simp)).trans (xz.same jH (l:=[a,I,C]) (by simp))).trans ik
    simpa using this
   have F3:wE pg w G wS (λ k=>S k||(j9 i (m+1)).any λ c=>k==(⟨#[c]⟩:Str)) (n+(m+1)):=by
    rw[show n+(m+1)=n+1+m by lia];refine F'.congr λ k=>?_
    rw[List.range'_succ,List.any_cons,Bool.or_assoc]
    congr 2
   have:=q h' G pt wS g v6 F3;have e:s.toks+3+1+4 * m=s.toks+4 * (m+1):=by lia
   show R _ {s with heap:=h',gens:=#[.finished],toks:=s.toks+3+1+4 * m};rw[e];exact this
end
noncomputable section
def NE (p:aK)(w:aA):Nat->aV->bA->Option (aV×bA)
 |0,s,t=>some (s,t)
 |n+1,s,t=>match Fast.tw2348191978395082540 t with
  |false=>none
  |true=>match Fast.tw10156331382660048174 (Fast.tw11892475500146522536 Fast.tw14364793385576792824) p w s t with
   |some (s',t')=>NE p w n s' t'
   |none=>none
theorem DP (p:aK)(w:aA):∀n s t,qK treeTable p w n s t=NE p w n s t
 |0,_,_=>rfl
 |n+1,s,t=>by
  unfold NE;rw[JL];rw[Fast.te2348191978395082540,Fast.te10156331382660048174,Fast.te11892475500146522536,Fast.te14364793385576792824]
  cases Fast.tw2348191978395082540 t with
  |false=>rfl
  |true=>
   cases Fast.tw10156331382660048174 (Fast.tw11892475500146522536 Fast.tw14364793385576792824) p w s t with
   |none=>rfl
   |some r=>
    have:=DP p w n r.1 r.2;rw[Fast.te14364793385576792824] at this;exact this
end
noncomputable abbrev lf (o:Obj):BT:=.node o .nil .nil
noncomputable abbrev nd (o:Obj)(l r:BT):BT:=.node o l r
noncomputable abbrev n1 (o:Obj)(l:BT):BT:=.node o l .nil
noncomputable abbrev en (P:aj)(x:Str)(t:Tok)(v:Value):dX:=⟨nG P x,.str x t,v⟩
noncomputable abbrev kO (a:Str)(t:Tok)(b:Str)(t2 t3:Tok)(l1 l2 l3 l4 l5:Int)(r1:Addr)(g:Bool)(l6:Int)(r2:Addr)(v1 v2 v3:Value)(l7 l8:Int)(t4:Tok):Obj:=⟨.type "code",none,.fields #[.str a t,.str b t2,.str "/claim/cut.py" t3,.int l1 0,.int l2 0,.int l3 0,.int l4 0,.int l5 0,.ref r1,.bool g,.int l6 0,.ref r2,.none,v1,v2,v3,.int l7 0,.int l8 0,.str "/claim/cut.py" t4],#[]⟩
noncomputable abbrev fO (n q:Str)(s:aC)(d k:Value)(m:Str)(t:Tok)(c:Addr):Obj:=⟨.type "function",none,.func {name:=n,qualname:=q,params:=iO s,body:=.stmts (ay s),scope:=ax s,globals:=3,closure:=[],defaults:=d,kwdefaults:=k,doc:=.none,pyModule:=.str m t,annotations:=none,code:=.ref c,closureTuple:=.none,builtins:=0},#[]⟩
noncomputable abbrev qO (n q:Str)(s:aC):Obj:=⟨.none,none,.func {name:=n,qualname:=q,params:=iO s,body:=.stmts (ay s),scope:=ax s,globals:=0,closure:=[],defaults:=.none,kwdefaults:=.none,doc:=.none,pyModule:=.none,annotations:=none,code:=.none,closureTuple:=.none,builtins:=0},#[]⟩
abbrev SZ:=Array (Int×Value)×Nat×SetTable
noncomputable def zO (z:SZ):Obj:=up z.1 z.2.1 z.2.2
noncomputable def Wb (b:Bool)(w:aA):aA:=w.withFollow "special-get-raises" b
noncomputable def tr (f:Nat->Obj):Nat->Nat->Nat->Nat->BT
 |0,_,_,_=>.nil
 |F+1,a,b,n=>match dI b n with
  |true=>.node (f b) (tr f F (2 * a) (a+b) n) (tr f F (2 * a) (2 * a+b) n)
  |false=>.nil
noncomputable def IN (L:List Obj)(zs:List (Nat×Obj))(i:Nat):Option Obj:=match dI i 22 with|true=>some (L.getD i default)|false=>zs.lookup i
noncomputable def yS (L:List Obj)(zs:List (Nat×Obj))(X:Nat->Obj)(M:List Obj)(i:Nat):Obj:=match dI i 57 with|true=>(IN L zs i).getD (X i)|false=>M.getD (i - 57) default
noncomputable def ev:aB:={scope:=pp.main.scope,locals:=mainNs,globals:=mainNs,cells:=[],code:=.ref 13,frame:=some 14}
noncomputable def cE:Code:=.body (behindTheImports pp) ev
noncomputable def fB:List Frame:=[topFrame default]
noncomputable abbrev at_ (rest:List aC)(p:Pos):bA:=restOf rest ev cE p fB
noncomputable abbrev eA (v:Value)(c:Code)(p:Pos)(F:List Frame):bA:=⟨leafOf (.ok (.ret v)),c,p,F⟩
noncomputable abbrev mG (c:Code)(p:Pos)(F:List Frame):bA:=⟨bJ aX c,c,p,F⟩
noncomputable def gC (c:Code)(p:Pos)(F:List Frame):bA:=⟨Fast.tw11892475500146522536 Fast.tw14364793385576792824 c,c,p,F⟩
theorem Tu (c:Code)(p:Pos)(F:List Frame):gC c p F=mG c p F:=by unfold gC mG;rw[table_eq_tree,Fast.te11892475500146522536,Fast.te14364793385576792824]
noncomputable def kX (r:Option (aV×bA)):List Frame:=match r with|some (_,t)=>t.stack|none=>[]
noncomputable def fj (F:List Frame):Bool:=(topHandled F).isNone&&Nat.ble (frameCount (F.map Frame.where_)) 500&&Nat.ble (unitsOf (F.map Frame.where_)) 500
noncomputable def mx:aF:=sub (sub (KT (sA 2) 0) 0) 1
noncomputable def Bs:Scope:=(qZ mx).2.2.1
noncomputable def ms:aB:={scope:=Bs,locals:=27,globals:=mainNs,cells:=[],qual:="<genexpr>.",code:=.ref 26,frame:=some 27}
noncomputable def ju (a i:Addr):Code:=.builtin "set.update.loop" ⟨[.ref a,.ref i],[]⟩
noncomputable def zY (a i:Addr):Code:=.builtin "frozenset.__or__" ⟨[.ref a,.ref i],[]⟩
noncomputable def FV (a i:Addr):Code:=.builtin "frozenset.__sub__" ⟨[.ref a,.ref i],[]⟩
noncomputable section
noncomputable abbrev IM (P:aj):List dX:=[en P "__name__" 165 (.str "cpy313.tomllib._parser" 194),en P "__doc__" 166 .none,en P "__package__" 167 .none,en P "__loader__" 168 (.builtin "__main__.__loader__#opaque"),en P "__spec__" 169 .none,en P "__annotations__" 170 (.ref 6),en P "__builtins__" 171 (.ref 4),en P "__file__" 173 (.str "/claim/cut.py" 172),en P "__cached__" 174 .none,en P "_wall" 193 (.ref 21)]
noncomputable def o3 (P:aj):Obj:=⟨.type "dict",none,.dict (IM P).toArray 10,#[]⟩
noncomputable def pm:Obj:=⟨.type "tuple",none,.seq #[] 0,#[]⟩
noncomputable def KK:Obj:=⟨.none,none,.fields #[],#[]⟩
noncomputable def pN (P:aj):List Obj:=[boot_o_0 P,boot_o_1 P,boot_o_2 P,o3 P,boot_o_4 P,boot_o_5 P,boot_o_6 P,boot_o_7 P,boot_o_8 P,boot_o_9 P,boot_o_10 P,pm,⟨.none,none,.fields #[.int 1 0,.int 0 0,.ref 20],#[]⟩,kO "<module>" 182 "<module>" 183 184 1 0 0 0 0 11 false 181 12 .none .none .none 185 1 186,⟨.type "frame",none,.plain,#[(some (.ref 13)),(some (.ref 3)),(some (.ref 3)),none,(some (.str "__main__" 164)),none,(some (.ref 0))]⟩,pm,KK,⟨.type "tuple",none,.seq #[.str "k" 190] 0,#[]⟩,pm,qO "_wall" "_wall" (sA 0),kO "_wall" 187 "_wall" 188 189 1 1 0 0 3 15 true 181 16 (.ref 17) (.ref 18) (.ref 19) 191 1 192,fO "_wall" "_wall" (sA 0) .none .none "__main__" 164 20]
noncomputable def S1 (X:Nat->Obj)(Z:Nat->SZ)(P:aj)(os:au):aV:=⟨tr (λ i=>(IN (pN P) [] i).getD (X i)) 6 1 0 22,22,{},#[],bB,196,os⟩
noncomputable def PG:Obj:=⟨.none,none,.fields #[.int 1 0,.int 0 0,.ref 20,.int 5 0,.int 23 0,.ref 26],#[]⟩
noncomputable def MF:Obj:=⟨.type "range",none,.fields #[.int 0 197,.int 32 196,.int 1 198],#[]⟩
noncomputable def XK:Obj:=⟨.type "range_iterator",none,.fields #[.int 0 0,.int 32 0,.int 1 0],#[]⟩
noncomputable def Wt:Obj:=kO "<genexpr>" 199 "<genexpr>" 200 201 5 1 0 0 35 24 true 181 25 .none .none .none 202 5 203
noncomputable def XY (P:aj):Obj:=⟨.type "frame",none,.dict #[en P ".0" 204 (.ref 23)] 1,#[]⟩
noncomputable def R1:Obj:=⟨.type "generator",none,.fields #[.int 0 0,.str "<genexpr>" 205,.str "<genexpr>" 206],#[]⟩
noncomputable def di (P:aj):List Obj:=(pN P).set 12 PG
def A2 (X:Nat->Obj)(Z:Nat->SZ)(P:aj)(os:au):aV:=⟨tr (λ i=>(IN (di P) [(29,up #[] 0 (.fresh 0 0 (!P.followText "set-order"))),(28,R1),(27,XY P),(26,Wt),(25,KK),(24,pm),(23,XK),(22,MF)] i).getD (X i)) 6 1 0 30,30,{},#[.fresh (.compStart mx 0 (.ref 23) .none ms)],bB,207,os⟩
def B2 (X:Nat->Obj)(Z:Nat->SZ)(P:aj)(os:au):aV:=⟨tr (λ i=>(IN (di P) [(29,zO (Z 29))] i).getD (X i)) 6 1 0 34,34,{},#[.finished],bB,335,os⟩
noncomputable def Ui:Obj:=⟨.type "str_ascii_iterator",none,.fields #[(.str ⟨#[127]⟩ 336),.int 0 0],#[]⟩
def C2 (X:Nat->Obj)(Z:Nat->SZ)(P:aj)(os:au):aV:=⟨tr (λ i=>(IN (di P) [(35,Ui),(34,up #[] 0 (.fresh 0 0 (!P.followText "set-order"))),(29,zO (Z 29))] i).getD (X i)) 6 1 0 36,36,{},#[.finished],bB,337,os⟩
def D2 (X:Nat->Obj)(Z:Nat->SZ)(P:aj)(os:au):aV:=⟨tr (λ i=>(IN (di P) [(34,zO (Z 34)),(29,zO (Z 29))] i).getD (X i)) 6 1 0 38,38,{},#[.finished],bB,339,os⟩
def G2 (X:Nat->Obj)(Z:Nat->SZ)(P:aj)(os:au):aV:=⟨tr (λ i=>(IN (di P) [(38,zO (Z 38))] i).getD (X i)) 6 1 0 39,39,{},#[.finished],bB,339,os⟩
noncomputable abbrev HG (P:aj):List dX:=IM P++[en P "ASCII_CTRL" 339 (.ref 38)]
noncomputable def YI (P:aj):Obj:=⟨.type "dict",none,.dict (HG P).toArray 11,#[]⟩
noncomputable def jF (P:aj):List Obj:=(di P).set 3 (YI P)
noncomputable def S2 (X:Nat->Obj)(Z:Nat->SZ)(P:aj)(os:au):aV:=⟨tr (λ i=>(IN (jF P) [(38,zO (Z 38))] i).getD (X i)) 6 1 0 39,39,{},#[.finished],bB,340,os⟩
noncomputable def YN:Obj:=⟨.type "str_ascii_iterator",none,.fields #[(.str ⟨#[9]⟩ 340),.int 0 0],#[]⟩
def A3 (X:Nat->Obj)(Z:Nat->SZ)(P:aj)(os:au):aV:=⟨tr (λ i=>(IN (jF P) [(40,YN),(39,up #[] 0 (.fresh 0 0 (!P.followText "set-order"))),(38,zO (Z 38))] i).getD (X i)) 6 1 0 41,41,{},#[.finished],bB,341,os⟩
def B3 (X:Nat->Obj)(Z:Nat->SZ)(P:aj)(os:au):aV:=⟨tr (λ i=>(IN (jF P) [(39,zO (Z 39)),(38,zO (Z 38))] i).getD (X i)) 6 1 0 43,43,{},#[.finished],bB,343,os⟩
def G3 (X:Nat->Obj)(Z:Nat->SZ)(P:aj)(os:au):aV:=⟨tr (λ i=>(IN (jF P) [(43,zO (Z 43))] i).getD (X i)) 6 1 0 44,44,{},#[.finished],bB,343,os⟩
noncomputable abbrev Fu (P:aj):List dX:=HG P++[en P "ILLEGAL_BASIC_STR_CHARS" 343 (.ref 43)]
noncomputable def RP (P:aj):Obj:=⟨.type "dict",none,.dict (Fu P).toArray 12,#[]⟩
noncomputable def XZ (P:aj):List Obj:=(di P).set 3 (RP P)
noncomputable def S3 (X:Nat->Obj)(Z:Nat->SZ)(P:aj)(os:au):aV:=⟨tr (λ i=>(IN (XZ P) [(43,zO (Z 43))] i).getD (X i)) 6 1 0 44,44,{},#[.finished],bB,344,os⟩
noncomputable abbrev Ff (P:aj):List dX:=Fu P++[en P "ILLEGAL_LITERAL_STR_CHARS" 344 (.ref 43),en P "ILLEGAL_COMMENT_CHARS" 345 (.ref 43)]
noncomputable def OP (P:aj):Obj:=⟨.type "dict",none,.dict (Ff P).toArray 14,#[]⟩
noncomputable def Oy:Obj:=⟨.type "str_ascii_iterator",none,.fields #[(.str ⟨#[32,9]⟩ 346),.int 0 0],#[]⟩
noncomputable def rX (P:aj):List Obj:=(di P).set 3 (OP P)
def A6 (X:Nat->Obj)(Z:Nat->SZ)(P:aj)(os:au):aV:=⟨tr (λ i=>(IN (rX P) [(45,Oy),(44,up #[] 0 (.fresh 0 0 (!P.followText "set-order"))),(43,zO (Z 43))] i).getD (X i)) 6 1 0 46,46,{},#[.finished],bB,347,os⟩
def B6 (X:Nat->Obj)(Z:Nat->SZ)(P:aj)(os:au):aV:=⟨tr (λ i=>(IN (rX P) [(44,zO (Z 44)),(43,zO (Z 43))] i).getD (X i)) 6 1 0 48,48,{},#[.finished],bB,351,os⟩
noncomputable abbrev Gk (P:aj):List dX:=Ff P++[en P "TOML_WS" 351 (.ref 44)]
noncomputable def Ye (P:aj):Obj:=⟨.type "dict",none,.dict (Gk P).toArray 15,#[]⟩
noncomputable def jw (P:aj):List Obj:=(di P).set 3 (Ye P)
noncomputable def S6 (X:Nat->Obj)(Z:Nat->SZ)(P:aj)(os:au):aV:=⟨tr (λ i=>(IN (jw P) [(44,zO (Z 44)),(43,zO (Z 43))] i).getD (X i)) 6 1 0 48,48,{},#[.finished],bB,352,os⟩
noncomputable def Uw:Obj:=⟨.type "str_ascii_iterator",none,.fields #[(.str ⟨#[10]⟩ 352),.int 0 0],#[]⟩
def A7 (X:Nat->Obj)(Z:Nat->SZ)(P:aj)(os:au):aV:=⟨tr (λ i=>(IN (jw P) [(49,Uw),(48,up #[] 0 (.fresh 0 0 (!P.followText "set-order"))),(44,zO (Z 44)),(43,zO (Z 43))] i).getD (X i)) 6 1 0 50,50,{},#[.finished],bB,353,os⟩
def B7 (X:Nat->Obj)(Z:Nat->SZ)(P:aj)(os:au):aV:=⟨tr (λ i=>(IN (jw P) [(48,zO (Z 48)),(44,zO (Z 44)),(43,zO (Z 43))] i).getD (X i)) 6 1 0 52,52,{},#[.finished],bB,355,os⟩
def G7 (X:Nat->Obj)(Z:Nat->SZ)(P:aj)(os:au):aV:=⟨tr (λ i=>(IN (jw P) [(52,zO (Z 52)),(43,zO (Z 43))] i).getD (X i)) 6 1 0 53,53,{},#[.finished],bB,355,os⟩
noncomputable abbrev IX (P:aj):List dX:=Gk P++[en P "TOML_WS_AND_NEWLINE" 355 (.ref 52)]
noncomputable def VX (P:aj):Obj:=⟨.type "dict",none,.dict (IX P).toArray 16,#[]⟩
noncomputable def Uj (P:aj):List Obj:=(di P).set 3 (VX P)
noncomputable def S7 (X:Nat->Obj)(Z:Nat->SZ)(P:aj)(os:au):aV:=⟨tr (λ i=>(IN (Uj P) [(52,zO (Z 52)),(43,zO (Z 43))] i).getD (X i)) 6 1 0 53,53,{},#[.finished],bB,356,os⟩
noncomputable abbrev JM (P:aj):List dX:=IX P++[en P "digits" 357 (.str "0123456789" 356),en P "hexdigits" 362 (.str "0123456789abcdefABCDEF" 361)]
noncomputable def UM (P:aj):Obj:=⟨.type "dict",none,.dict (JM P).toArray 18,#[]⟩
noncomputable def O7:Obj:=⟨.type "str_ascii_iterator",none,.fields #[.str "0123456789abcdefABCDEF" 361,.int 0 0],#[]⟩
noncomputable def sr (P:aj):List Obj:=(di P).set 3 (UM P)
def g9 (X:Nat->Obj)(Z:Nat->SZ)(P:aj)(os:au):aV:=⟨tr (λ i=>(IN (sr P) [(54,O7),(53,up #[] 0 (.fresh 0 0 (!P.followText "set-order"))),(52,zO (Z 52)),(43,zO (Z 43))] i).getD (X i)) 6 1 0 55,55,{},#[.finished],bB,363,os⟩
def Ax (X:Nat->Obj)(Z:Nat->SZ)(P:aj)(os:au):aV:=⟨tr (λ i=>(IN (sr P) [(53,zO (Z 53)),(52,zO (Z 52)),(43,zO (Z 43))] i).getD (X i)) 6 1 0 57,57,{},#[.finished],bB,407,os⟩
noncomputable abbrev EX (P:aj):List dX:=JM P++[en P "HEXDIGIT_CHARS" 407 (.ref 53)]
noncomputable def UG (P:aj):Obj:=⟨.type "dict",none,.dict (EX P).toArray 19,#[]⟩
noncomputable def MK (P:aj):List Obj:=(di P).set 3 (UG P)
noncomputable def BR (X:Nat->Obj)(Z:Nat->SZ)(P:aj)(os:au):aV:=⟨tr (λ i=>(IN (MK P) [(53,zO (Z 53)),(52,zO (Z 52)),(43,zO (Z 43))] i).getD (X i)) 6 1 0 57,57,{},#[.finished],bB,408,os⟩
def wx (b:Bool)(w:aA)(os:au)(rest:List aC)(X0:Nat->Obj)(Z0:Nat->SZ):List Frame:=kX (NE pp (Wb b w) 86 (S1 X0 Z0 (Wb b w).params os) (at_ (sA 2::rest) ⟨4,0,4,8⟩))
def wa (b:Bool)(w:aA)(os:au)(rest:List aC)(X0:Nat->Obj)(Z0:Nat->SZ)(X1:Nat->Obj)(Z1:Nat->SZ)(c1:Code)(p1:Pos):List Frame:=kX (NE pp (Wb b w) 38 (B2 X1 Z1 (Wb b w).params os) (eA (.none) c1 p1 (wx b w os rest X0 Z0)))
def zN (b:Bool)(w:aA)(os:au)(rest:List aC)(X0:Nat->Obj)(Z0:Nat->SZ)(X1:Nat->Obj)(Z1:Nat->SZ)(c1:Code)(p1:Pos)(X2:Nat->Obj)(Z2:Nat->SZ)(c2:Code)(p2:Pos):List Frame:=kX (NE pp (Wb b w) 18 (D2 X2 Z2 (Wb b w).params os) (eA (.none) c2 p2 (wa b w os rest X0 Z0 X1 Z1 c1 p1)))
def xn (b:Bool)(w:aA)(os:au)(rest:List aC)(X0:Nat->Obj)(Z0:Nat->SZ):List Frame:=kX (NE pp (Wb b w) 21 (S2 X0 Z0 (Wb b w).params os) (at_ (sA 3::rest) ⟨5,0,5,10⟩))
def Bu (b:Bool)(w:aA)(os:au)(rest:List aC)(X0:Nat->Obj)(Z0:Nat->SZ)(X1:Nat->Obj)(Z1:Nat->SZ)(c1:Code)(p1:Pos):List Frame:=kX (NE pp (Wb b w) 18 (B3 X1 Z1 (Wb b w).params os) (eA (.none) c1 p1 (xn b w os rest X0 Z0)))
def yP (b:Bool)(w:aA)(os:au)(rest:List aC)(X0:Nat->Obj)(Z0:Nat->SZ):List Frame:=kX (NE pp (Wb b w) 39 (S3 X0 Z0 (Wb b w).params os) (at_ (sA 4::sA 5::sA 6::rest) ⟨6,0,6,23⟩))
def w7 (b:Bool)(w:aA)(os:au)(rest:List aC)(X0:Nat->Obj)(Z0:Nat->SZ):List Frame:=kX (NE pp (Wb b w) 21 (S6 X0 Z0 (Wb b w).params os) (at_ (sA 7::rest) ⟨9,0,9,7⟩))
def yE (b:Bool)(w:aA)(os:au)(rest:List aC)(X0:Nat->Obj)(Z0:Nat->SZ)(X1:Nat->Obj)(Z1:Nat->SZ)(c1:Code)(p1:Pos):List Frame:=kX (NE pp (Wb b w) 18 (B7 X1 Z1 (Wb b w).params os) (eA (.none) c1 p1 (w7 b w os rest X0 Z0)))
def Ar (b:Bool)(w:aA)(os:au)(rest:List aC)(X0:Nat->Obj)(Z0:Nat->SZ):List Frame:=kX (NE pp (Wb b w) 53 (S7 X0 Z0 (Wb b w).params os) (at_ (sA 8::sA 9::sA 10::rest) ⟨10,0,10,19⟩))
end
theorem wH (b:Bool)(w:aA)(os:au)(rest:List aC)(C:Nat->Obj)(B:Nat->SZ)(G:Nat->Obj)(D:Nat->SZ)(H:Code)(p1:Pos)(L:Nat->Obj)(J:Nat->SZ)(M:Code)(p2:Pos)(N:Nat->Obj)(O:Nat->SZ)(R:Code)(T:Pos):(NE pp (Wb b w) 86 (S1 C B (Wb b w).params os) (at_ (sA 2::rest) ⟨4,0,4,8⟩)=some (A2 C B (Wb b w).params os,gC (ju 29 28) ⟨5,13,5,51⟩ (wx b w os rest C B))/\fj (wx b w os rest C B)=true) /\
  (NE pp (Wb b w) 38 (B2 G D (Wb b w).params os) (eA (.none) H p1 (wx b w os rest C B))=some (C2 G D (Wb b w).params os,gC (ju 34 35) ⟨5,54,5,73⟩ (wa b w os rest C B G D H p1))/\fj (wa b w os rest C B G D H p1)=true) /\
  (NE pp (Wb b w) 18 (D2 L J (Wb b w).params os) (eA (.none) M p2 (wa b w os rest C B G D H p1))=some (D2 L J (Wb b w).params os,gC (zY 29 34) ⟨5,13,5,73⟩ (zN b w os rest C B G D H p1 L J M p2))/\fj (zN b w os rest C B G D H p1 L J M p2)=true) /\
  (NE pp (Wb b w) 9 (G2 N O (Wb b w).params os) (eA (.ref 38) R T (zN b w os rest C B G D H p1 L J M p2))=some (S2 N O (Wb b w).params os,at_ rest ⟨5,0,5,10⟩)):=by
 cases b<;>exact⟨⟨by kernel_rfl,by kernel_rfl⟩,⟨by kernel_rfl,by kernel_rfl⟩,⟨by kernel_rfl,by kernel_rfl⟩,by kernel_rfl⟩
theorem yX (b:Bool)(w:aA)(os:au)(rest:List aC)(C:Nat->Obj)(B:Nat->SZ)(G:Nat->Obj)(D:Nat->SZ)(H:Code)(p1:Pos)(L:Nat->Obj)(J:Nat->SZ)(M:Code)(p2:Pos):(NE pp (Wb b w) 21 (S2 C B (Wb b w).params os) (at_ (sA 3::rest) ⟨5,0,5,10⟩)=some (A3 C B (Wb b w).params os,gC (ju 39 40) ⟨6,39,6,54⟩ (xn b w os rest C B))/\fj (xn b w os rest C B)=true) /\
  (NE pp (Wb b w) 18 (B3 G D (Wb b w).params os) (eA (.none) H p1 (xn b w os rest C B))=some (B3 G D (Wb b w).params os,gC (FV 38 39) ⟨6,26,6,54⟩ (Bu b w os rest C B G D H p1))/\fj (Bu b w os rest C B G D H p1)=true) /\
  (NE pp (Wb b w) 9 (G3 L J (Wb b w).params os) (eA (.ref 43) M p2 (Bu b w os rest C B G D H p1))=some (S3 L J (Wb b w).params os,at_ rest ⟨6,0,6,23⟩)):=by
 cases b<;>exact⟨⟨by kernel_rfl,by kernel_rfl⟩,⟨by kernel_rfl,by kernel_rfl⟩,by kernel_rfl⟩
theorem D4 (b:Bool)(w:aA)(os:au)(rest:List aC)(C:Nat->Obj)(B:Nat->SZ)(G:Nat->Obj)(D:Nat->SZ)(H:Code)(p1:Pos):(NE pp (Wb b w) 39 (S3 C B (Wb b w).params os) (at_ (sA 4::sA 5::sA 6::rest) ⟨6,0,6,23⟩)=some (A6 C B (Wb b w).params os,gC (ju 44 45) ⟨9,10,9,26⟩ (yP b w os rest C B))/\fj (yP b w os rest C B)=true) /\
  (NE pp (Wb b w) 18 (B6 G D (Wb b w).params os) (eA (.none) H p1 (yP b w os rest C B))=some (S6 G D (Wb b w).params os,at_ rest ⟨9,0,9,7⟩)):=by
 cases b<;>exact⟨⟨by kernel_rfl,by kernel_rfl⟩,by kernel_rfl⟩
theorem Bo (b:Bool)(w:aA)(os:au)(rest:List aC)(C:Nat->Obj)(B:Nat->SZ)(G:Nat->Obj)(D:Nat->SZ)(H:Code)(p1:Pos)(L:Nat->Obj)(J:Nat->SZ)(M:Code)(p2:Pos):(NE pp (Wb b w) 21 (S6 C B (Wb b w).params os) (at_ (sA 7::rest) ⟨9,0,9,7⟩)=some (A7 C B (Wb b w).params os,gC (ju 48 49) ⟨10,32,10,47⟩ (w7 b w os rest C B))/\fj (w7 b w os rest C B)=true) /\
  (NE pp (Wb b w) 18 (B7 G D (Wb b w).params os) (eA (.none) H p1 (w7 b w os rest C B))=some (B7 G D (Wb b w).params os,gC (zY 44 48) ⟨10,22,10,47⟩ (yE b w os rest C B G D H p1))/\fj (yE b w os rest C B G D H p1)=true) /\
  (NE pp (Wb b w) 9 (G7 L J (Wb b w).params os) (eA (.ref 52) M p2 (yE b w os rest C B G D H p1))=some (S7 L J (Wb b w).params os,at_ rest ⟨10,0,10,19⟩)):=by
 cases b<;>exact⟨⟨by kernel_rfl,by kernel_rfl⟩,⟨by kernel_rfl,by kernel_rfl⟩,by kernel_rfl⟩
theorem Ft (b:Bool)(w:aA)(os:au)(rest:List aC)(C:Nat->Obj)(B:Nat->SZ)(G:Nat->Obj)(D:Nat->SZ)(H:Code)(p1:Pos):(NE pp (Wb b w) 53 (S7 C B (Wb b w).params os) (at_ (sA 8::sA 9::sA 10::rest) ⟨10,0,10,19⟩)=some (g9 C B (Wb b w).params os,gC (ju 53 54) ⟨13,17,13,37⟩ (Ar b w os rest C B))/\fj (Ar b w os rest C B)=true) /\
  (NE pp (Wb b w) 18 (Ax G D (Wb b w).params os) (eA (.none) H p1 (Ar b w os rest C B))=some (BR G D (Wb b w).params os,at_ rest ⟨13,0,13,14⟩)):=by
 cases b<;>exact⟨⟨by kernel_rfl,by kernel_rfl⟩,by kernel_rfl⟩
noncomputable section
noncomputable abbrev HX (P:aj):List dX:=(en P "__name__" 165 (.str "cpy313.graphlib" 502))::(EX P).drop 1++[en P "TOMLDecodeError" 425 (.ref 66),en P "skip_chars" 434 (.ref 76),en P "skip_until" 446 (.ref 83),en P "skip_comment" 455 (.ref 90),en P "skip_comments_and_array_ws" 464 (.ref 97),en P "parse_hex_char" 475 (.ref 104),en P "parse_literal_str" 484 (.ref 111),en P "suffixed_err" 494 (.ref 118),en P "is_unicode_scalar_value" 501 (.ref 125),en P "_NODE_OUT" 506 (.int (-1) 505),en P "_NODE_DONE" 509 (.int (-2) 508)]
noncomputable def SS (P:aj):Obj:=⟨.type "dict",none,.dict (HX P).toArray 30,#[]⟩
noncomputable def SN:Obj:=⟨.none,none,.fields #[.int 1 0,.int 0 0,.ref 20,.int 5 0,.int 23 0,.ref 26,.int 14 0,.int 0 0,.ref 62,.int 16 0,.int 0 0,.ref 75,.int 23 0,.int 0 0,.ref 82,.int 35 0,.int 0 0,.ref 89,.int 43 0,.int 0 0,.ref 96,.int 50 0,.int 0 0,.ref 103,.int 59 0,.int 0 0,.ref 110,.int 64 0,.int 0 0,.ref 117,.int 76 0,.int 0 0,.ref 124],#[]⟩
noncomputable def H4:Obj:=⟨.type "tuple",none,.seq #[.type "ValueError"] 0,#[]⟩
noncomputable def vM:Obj:=⟨.type "builtin_function_or_method",none,.fields #[.builtin "type.__prepare__",.type "type"],#[]⟩
noncomputable def Jx (P:aj):Obj:=⟨.type "dict",none,.dict #[en P "__module__" 415 (.str "cpy313.tomllib._parser" 194),en P "__firstlineno__" 419 (.int 14 418),en P "__static_attributes__" 420 (.ref 64),en P "__weakref__" 422 (.ref 67),en P "__doc__" 423 .none] 3,#[]⟩
noncomputable def Fx:Obj:=⟨.type "type",none,.cls {name:="TOMLDecodeError",bases:=[.type "ValueError"],mro:=[.ref 66,.type "ValueError",.type "Exception",.type "BaseException",.type "object"],ns:=65,qualname:="TOMLDecodeError",hasDict:=true,slotNames:=[],subclasses:=[],abstract:=false,collection:=none,hasDel:=false},#[(some (.ref 57)),none,(some (.str "TOMLDecodeError" 408)),(some (.str "TOMLDecodeError" 416)),(some (.builtin "ValueError.__new__")),(some (.bool true))]⟩
noncomputable def yY:Obj:=kO "suffixed_err" 485 "suffixed_err" 486 487 64 3 0 0 3 112 true 181 113 (.ref 114) (.ref 115) (.ref 116) 492 64 493
noncomputable def My (P:aj):List Obj:=((pN P).set 3 (SS P)).set 12 SN
noncomputable def FZ (P:aj):List Obj:=[H4,vM,⟨.type "dict",none,.dict #[en P "__module__" 415 (.str "cpy313.tomllib._parser" 194),en P "__qualname__" 417 (.str "TOMLDecodeError" 416),en P "__firstlineno__" 419 (.int 14 418),en P "__static_attributes__" 420 (.ref 64)] 4,#[]⟩,pm,KK,kO "TOMLDecodeError" 410 "TOMLDecodeError" 411 412 14 0 0 0 0 60 false 181 61 .none .none .none 413 14 414,⟨.type "frame",none,.plain,#[(some (.ref 62)),(some (.ref 3)),(some (.ref 59)),none,(some (.str "cpy313.tomllib._parser" 194)),none,(some (.ref 0))]⟩,pm,Jx P,Fx,⟨.type "getset_descriptor",none,.fields #[.str "__weakref__" 421,.ref 66,.builtin "ExceptionGroup.__weakref__",.none],#[]⟩,⟨.type "super",none,.fields #[.ref 66,.ref 66,.ref 66],#[]⟩,⟨.type "builtin_function_or_method",none,.fields #[.builtin "object.__init_subclass__",.ref 66],#[]⟩,pm,KK,⟨.type "tuple",none,.seq #[.str "src" 429,.str "pos" 430,.str "chars" 431] 0,#[]⟩,pm,qO "skip_chars" "skip_chars" (sA 12),kO "skip_chars" 426 "skip_chars" 427 428 16 3 0 0 3 70 true 181 71 (.ref 72) (.ref 73) (.ref 74) 432 16 433,fO "skip_chars" "skip_chars" (sA 12) .none .none "cpy313.tomllib._parser" 194 75,pm,KK,⟨.type "tuple",none,.seq #[.str "src" 438,.str "pos" 439,.str "expect" 440,.str "error_on" 441,.str "error_on_eof" 442,.str "new_pos" 443] 0,#[]⟩,pm,qO "skip_until" "skip_until" (sA 13),kO "skip_until" 435 "skip_until" 436 437 23 3 0 2 3 77 true 181 78 (.ref 79) (.ref 80) (.ref 81) 444 23 445,fO "skip_until" "skip_until" (sA 13) .none .none "cpy313.tomllib._parser" 194 82,pm,KK,⟨.type "tuple",none,.seq #[.str "src" 450,.str "pos" 451,.str "char" 452] 0,#[]⟩,pm,qO "skip_comment" "skip_comment" (sA 14),kO "skip_comment" 447 "skip_comment" 448 449 35 2 0 0 3 84 true 181 85 (.ref 86) (.ref 87) (.ref 88) 453 35 454,fO "skip_comment" "skip_comment" (sA 14) .none .none "cpy313.tomllib._parser" 194 89,pm,KK,⟨.type "tuple",none,.seq #[.str "src" 459,.str "pos" 460,.str "pos_before_skip" 461] 0,#[]⟩,pm,qO "skip_comments_and_array_ws" "skip_comments_and_array_ws" (sA 15),kO "skip_comments_and_array_ws" 456 "skip_comments_and_array_ws" 457 458 43 2 0 0 3 91 true 181 92 (.ref 93) (.ref 94) (.ref 95) 462 43 463,fO "skip_comments_and_array_ws" "skip_comments_and_array_ws" (sA 15) .none .none "cpy313.tomllib._parser" 194 96,pm,KK,⟨.type "tuple",none,.seq #[.str "src" 468,.str "pos" 469,.str "hex_len" 470,.str "hex_str" 471,.str "hex_int" 472] 0,#[]⟩,pm,qO "parse_hex_char" "parse_hex_char" (sA 16),kO "parse_hex_char" 465 "parse_hex_char" 466 467 50 3 0 0 3 98 true 181 99 (.ref 100) (.ref 101) (.ref 102) 473 50 474,fO "parse_hex_char" "parse_hex_char" (sA 16) .none .none "cpy313.tomllib._parser" 194 103,pm,KK,⟨.type "tuple",none,.seq #[.str "src" 479,.str "pos" 480,.str "start_pos" 481] 0,#[]⟩,pm,qO "parse_literal_str" "parse_literal_str" (sA 17),kO "parse_literal_str" 476 "parse_literal_str" 477 478 59 2 0 0 3 105 true 181 106 (.ref 107) (.ref 108) (.ref 109) 482 59 483,fO "parse_literal_str" "parse_literal_str" (sA 17) .none .none "cpy313.tomllib._parser" 194 110,pm,KK,⟨.type "tuple",none,.seq #[.str "src" 488,.str "pos" 489,.str "msg" 490,.str "coord_repr" 491] 0,#[]⟩,pm,qO "suffixed_err" "suffixed_err" (sA 18),yY,fO "suffixed_err" "suffixed_err" (sA 18) .none .none "cpy313.tomllib._parser" 194 117,pm,KK,⟨.type "tuple",none,.seq #[.str "codepoint" 498] 0,#[]⟩,pm,qO "is_unicode_scalar_value" "is_unicode_scalar_value" (sA 19),kO "is_unicode_scalar_value" 495 "is_unicode_scalar_value" 496 497 76 1 0 0 3 119 true 181 120 (.ref 121) (.ref 122) (.ref 123) 499 76 500,fO "is_unicode_scalar_value" "is_unicode_scalar_value" (sA 19) .none .none "cpy313.tomllib._parser" 194 124]
noncomputable def Fb (X:Nat->Obj)(Z:Nat->SZ)(P:aj)(os:au):aV:=⟨tr (yS (My P) [(53,zO (Z 53)),(52,zO (Z 52)),(43,zO (Z 43))] X (FZ P)) 9 1 0 126,126,{},#[.finished],bB,510,os⟩
noncomputable abbrev Ej (P:aj):List dX:=HX P++[en P "_NodeInfo" 546 (.ref 144),en P "CycleError" 564 (.ref 159),en P "TopologicalSorter" 683 (.ref 241)]
noncomputable def QR (P:aj):Obj:=⟨.type "dict",none,.dict (Ej P).toArray 33,#[]⟩
noncomputable def UD:Obj:=⟨.none,none,.fields #[.int 1 0,.int 0 0,.ref 20,.int 5 0,.int 23 0,.ref 26,.int 14 0,.int 0 0,.ref 62,.int 16 0,.int 0 0,.ref 75,.int 23 0,.int 0 0,.ref 82,.int 35 0,.int 0 0,.ref 89,.int 43 0,.int 0 0,.ref 96,.int 50 0,.int 0 0,.ref 103,.int 59 0,.int 0 0,.ref 110,.int 64 0,.int 0 0,.ref 117,.int 76 0,.int 0 0,.ref 124,.int 81 0,.int 0 0,.ref 131,.int 88 0,.int 0 0,.ref 155,.int 90 0,.int 0 0,.ref 168],#[]⟩
noncomputable def Hg:Obj:=kO "__init__" 526 "_NodeInfo.__init__" 527 528 84 2 0 0 3 134 true 181 135 (.ref 136) (.ref 137) (.ref 138) 531 84 532
noncomputable def xC:Obj:=fO "__init__" "_NodeInfo.__init__" ((bN (sA 23)).getD 1 default) .none .none "cpy313.graphlib" 502 139
noncomputable def Er (P:aj):Obj:=⟨.type "dict",none,.dict #[en P "__module__" 554 (.str "cpy313.graphlib" 502),en P "__firstlineno__" 558 (.int 88 557),en P "__static_attributes__" 559 (.ref 157),en P "__weakref__" 561 (.ref 160),en P "__doc__" 562 .none] 3,#[]⟩
noncomputable def JA:Obj:=⟨.type "type",none,.cls {name:="CycleError",bases:=[.type "ValueError"],mro:=[.ref 159,.type "ValueError",.type "Exception",.type "BaseException",.type "object"],ns:=158,qualname:="CycleError",hasDict:=true,slotNames:=[],subclasses:=[],abstract:=false,collection:=none,hasDel:=false},#[(some (.ref 150)),none,(some (.str "CycleError" 547)),(some (.str "CycleError" 555)),(some (.builtin "ValueError.__new__")),(some (.bool true))]⟩
noncomputable def Fp:Obj:=⟨.type "tuple",none,.seq #[.none] 0,#[]⟩
noncomputable def Hn:Obj:=kO "__init__" 577 "TopologicalSorter.__init__" 578 579 92 2 0 0 3 171 true 181 172 (.ref 173) (.ref 174) (.ref 175) 584 92 585
noncomputable def Em:Obj:=fO "__init__" "TopologicalSorter.__init__" ((bN (sA 25)).getD 0 default) (.ref 170) .none "cpy313.graphlib" 502 176
noncomputable def S8 (P:aj):List Obj:=((pN P).set 3 (QR P)).set 12 UD
noncomputable def LK (P:aj):List Obj:=[pm,vM,⟨.type "dict",none,.dict #[en P "__module__" 517 (.str "cpy313.graphlib" 502),en P "__qualname__" 519 (.str "_NodeInfo" 518),en P "__firstlineno__" 521 (.int 81 520),en P "__slots__" 525 (.ref 133),en P "__init__" 533 (.ref 140),en P "__static_attributes__" 537 (.ref 141)] 6,#[]⟩,pm,⟨.none,none,.fields #[.int 84 0,.int 4 0,.ref 139],#[]⟩,kO "_NodeInfo" 512 "_NodeInfo" 513 514 81 0 0 0 0 129 false 181 130 .none .none .none 515 81 516,⟨.type "frame",none,.plain,#[(some (.ref 131)),(some (.ref 3)),(some (.ref 128)),none,(some (.str "cpy313.graphlib" 502)),none,(some (.ref 0))]⟩,⟨.type "tuple",none,.seq #[.str "node" 522,.str "npredecessors" 523,.str "successors" 524] 0,#[]⟩,pm,KK,⟨.type "tuple",none,.seq #[.str "self" 529,.str "node" 530] 0,#[]⟩,pm,qO "__init__" "_NodeInfo.__init__" ((bN (sA 23)).getD 1 default),Hg,xC,⟨.type "tuple",none,.seq #[.str "node" 534,.str "npredecessors" 535,.str "successors" 536] 0,#[]⟩,⟨.type "list",none,.seq #[.str "node" 522,.str "npredecessors" 523,.str "successors" 524] 1,#[]⟩,⟨.type "dict",none,.dict #[en P "__module__" 517 (.str "cpy313.graphlib" 502),en P "__firstlineno__" 521 (.int 81 520),en P "__slots__" 525 (.ref 133),en P "__init__" 533 (.ref 140),en P "__static_attributes__" 537 (.ref 141),en P "node" 539 (.ref 145),en P "npredecessors" 541 (.ref 146),en P "successors" 543 (.ref 147),en P "__doc__" 544 .none] 5,#[]⟩,⟨.type "type",none,.cls {name:="_NodeInfo",bases:=[.type "object"],mro:=[.ref 144,.type "object"],ns:=143,qualname:="_NodeInfo",hasDict:=false,slotNames:=["node","npredecessors","successors"],subclasses:=[],abstract:=false,collection:=none,hasDel:=false},#[none,none,(some (.str "_NodeInfo" 510)),(some (.str "_NodeInfo" 518)),(some (.builtin "object.__new__")),(some (.bool false))]⟩,⟨.type "member_descriptor",none,.fields #[.str "node" 538,.ref 144,.builtin "proto.slot",.builtin "proto.slot#set",.int 2 0],#[]⟩,⟨.type "member_descriptor",none,.fields #[.str "npredecessors" 540,.ref 144,.builtin "proto.slot",.builtin "proto.slot#set",.int 1 0],#[]⟩,⟨.type "member_descriptor",none,.fields #[.str "successors" 542,.ref 144,.builtin "proto.slot",.builtin "proto.slot#set",.int 0 0],#[]⟩,⟨.type "super",none,.fields #[.ref 144,.ref 144,.ref 144],#[]⟩,⟨.type "builtin_function_or_method",none,.fields #[.builtin "object.__init_subclass__",.ref 144],#[]⟩,H4,vM,⟨.type "dict",none,.dict #[en P "__module__" 554 (.str "cpy313.graphlib" 502),en P "__qualname__" 556 (.str "CycleError" 555),en P "__firstlineno__" 558 (.int 88 557),en P "__static_attributes__" 559 (.ref 157)] 4,#[]⟩,pm,KK,kO "CycleError" 549 "CycleError" 550 551 88 0 0 0 0 153 false 181 154 .none .none .none 552 88 553,⟨.type "frame",none,.plain,#[(some (.ref 155)),(some (.ref 3)),(some (.ref 152)),none,(some (.str "cpy313.graphlib" 502)),none,(some (.ref 0))]⟩,pm,Er P,JA,⟨.type "getset_descriptor",none,.fields #[.str "__weakref__" 560,.ref 159,.builtin "ExceptionGroup.__weakref__",.none],#[]⟩,⟨.type "super",none,.fields #[.ref 159,.ref 159,.ref 159],#[]⟩,⟨.type "builtin_function_or_method",none,.fields #[.builtin "object.__init_subclass__",.ref 159],#[]⟩,pm,vM,⟨.type "dict",none,.dict #[en P "__module__" 572 (.str "cpy313.graphlib" 502),en P "__qualname__" 574 (.str "TopologicalSorter" 573),en P "__firstlineno__" 576 (.int 90 575),en P "__init__" 586 (.ref 177),en P "_get_nodeinfo" 595 (.ref 184),en P "add" 607 (.ref 191),en P "prepare" 613 (.ref 196),en P "get_ready" 623 (.ref 203),en P "is_active" 630 (.ref 210),en P "__bool__" 637 (.ref 217),en P "done" 651 (.ref 224),en P "_find_cycle" 664 (.ref 231),en P "static_order" 671 (.ref 238),en P "__static_attributes__" 676 (.ref 239)] 14,#[]⟩,pm,⟨.none,none,.fields #[.int 92 0,.int 4 0,.ref 176,.int 101 0,.int 4 0,.ref 183,.int 106 0,.int 4 0,.ref 190,.int 115 0,.int 4 0,.ref 195,.int 123 0,.int 4 0,.ref 202,.int 134 0,.int 4 0,.ref 209,.int 139 0,.int 4 0,.ref 216,.int 142 0,.int 4 0,.ref 223,.int 165 0,.int 4 0,.ref 230,.int 194 0,.int 4 0,.ref 237],#[]⟩,kO "TopologicalSorter" 567 "TopologicalSorter" 568 569 90 0 0 0 0 166 false 181 167 .none .none .none 570 90 571,⟨.type "frame",none,.plain,#[(some (.ref 168)),(some (.ref 3)),(some (.ref 165)),none,(some (.str "cpy313.graphlib" 502)),none,(some (.ref 0))]⟩,Fp,pm,KK,⟨.type "tuple",none,.seq #[.str "self" 580,.str "graph" 581,.str "node" 582,.str "predecessors" 583] 0,#[]⟩,pm,qO "__init__" "TopologicalSorter.__init__" ((bN (sA 25)).getD 0 default),Hn,Em,pm,KK,⟨.type "tuple",none,.seq #[.str "self" 590,.str "node" 591,.str "result" 592] 0,#[]⟩,pm,qO "_get_nodeinfo" "TopologicalSorter._get_nodeinfo" ((bN (sA 25)).getD 1 default),kO "_get_nodeinfo" 587 "TopologicalSorter._get_nodeinfo" 588 589 101 2 0 0 3 178 true 181 179 (.ref 180) (.ref 181) (.ref 182) 593 101 594,fO "_get_nodeinfo" "TopologicalSorter._get_nodeinfo" ((bN (sA 25)).getD 1 default) .none .none "cpy313.graphlib" 502 183,pm,KK,⟨.type "tuple",none,.seq #[.str "self" 599,.str "node" 600,.str "predecessors" 601,.str "nodeinfo" 602,.str "pred" 603,.str "pred_info" 604] 0,#[]⟩,pm,qO "add" "TopologicalSorter.add" ((bN (sA 25)).getD 2 default),kO "add" 596 "TopologicalSorter.add" 597 598 106 2 0 0 7 185 true 181 186 (.ref 187) (.ref 188) (.ref 189) 605 106 606,fO "add" "TopologicalSorter.add" ((bN (sA 25)).getD 2 default) .none .none "cpy313.graphlib" 502 190,pm,KK,qO "prepare" "TopologicalSorter.prepare" ((bN (sA 25)).getD 3 default),kO "prepare" 608 "TopologicalSorter.prepare" 609 610 115 1 0 0 3 192 true 181 193 .none .none (.ref 194) 611 115 612,fO "prepare" "TopologicalSorter.prepare" ((bN (sA 25)).getD 3 default) .none .none "cpy313.graphlib" 502 195,pm,KK,⟨.type "tuple",none,.seq #[.str "self" 617,.str "result" 618,.str "n2i" 619,.str "node" 620] 0,#[]⟩,pm,qO "get_ready" "TopologicalSorter.get_ready" ((bN (sA 25)).getD 4 default),kO "get_ready" 614 "TopologicalSorter.get_ready" 615 616 123 1 0 0 3 197 true 181 198 (.ref 199) (.ref 200) (.ref 201) 621 123 622,fO "get_ready" "TopologicalSorter.get_ready" ((bN (sA 25)).getD 4 default) .none .none "cpy313.graphlib" 502 202,pm,KK,⟨.type "tuple",none,.seq #[.str "self" 627] 0,#[]⟩,pm,qO "is_active" "TopologicalSorter.is_active" ((bN (sA 25)).getD 5 default),kO "is_active" 624 "TopologicalSorter.is_active" 625 626 134 1 0 0 3 204 true 181 205 (.ref 206) (.ref 207) (.ref 208) 628 134 629,fO "is_active" "TopologicalSorter.is_active" ((bN (sA 25)).getD 5 default) .none .none "cpy313.graphlib" 502 209,pm,KK,⟨.type "tuple",none,.seq #[.str "self" 634] 0,#[]⟩,pm,qO "__bool__" "TopologicalSorter.__bool__" ((bN (sA 25)).getD 6 default),kO "__bool__" 631 "TopologicalSorter.__bool__" 632 633 139 1 0 0 3 211 true 181 212 (.ref 213) (.ref 214) (.ref 215) 635 139 636,fO "__bool__" "TopologicalSorter.__bool__" ((bN (sA 25)).getD 6 default) .none .none "cpy313.graphlib" 502 216,pm,KK,⟨.type "tuple",none,.seq #[.str "self" 641,.str "nodes" 642,.str "n2i" 643,.str "node" 644,.str "nodeinfo" 645,.str "stat" 646,.str "successor" 647,.str "successor_info" 648] 0,#[]⟩,pm,qO "done" "TopologicalSorter.done" ((bN (sA 25)).getD 7 default),kO "done" 638 "TopologicalSorter.done" 639 640 142 1 0 0 7 218 true 181 219 (.ref 220) (.ref 221) (.ref 222) 649 142 650,fO "done" "TopologicalSorter.done" ((bN (sA 25)).getD 7 default) .none .none "cpy313.graphlib" 502 223,pm,KK,⟨.type "tuple",none,.seq #[.str "self" 655,.str "n2i" 656,.str "stack" 657,.str "itstack" 658,.str "seen" 659,.str "node2stacki" 660,.str "node" 661] 0,#[]⟩,pm,qO "_find_cycle" "TopologicalSorter._find_cycle" ((bN (sA 25)).getD 8 default),kO "_find_cycle" 652 "TopologicalSorter._find_cycle" 653 654 165 1 0 0 3 225 true 181 226 (.ref 227) (.ref 228) (.ref 229) 662 165 663,fO "_find_cycle" "TopologicalSorter._find_cycle" ((bN (sA 25)).getD 8 default) .none .none "cpy313.graphlib" 502 230,pm,KK,⟨.type "tuple",none,.seq #[.str "self" 668] 0,#[]⟩,pm,qO "static_order" "TopologicalSorter.static_order" ((bN (sA 25)).getD 9 default),kO "static_order" 665 "TopologicalSorter.static_order" 666 667 194 1 0 0 3 232 true 181 233 (.ref 234) (.ref 235) (.ref 236) 669 194 670,fO "static_order" "TopologicalSorter.static_order" ((bN (sA 25)).getD 9 default) .none .none "cpy313.graphlib" 502 237,⟨.type "tuple",none,.seq #[.str "_nfinished" 672,.str "_node2info" 673,.str "_npassedout" 674,.str "_ready_nodes" 675] 0,#[]⟩,⟨.type "dict",none,.dict #[en P "__module__" 572 (.str "cpy313.graphlib" 502),en P "__firstlineno__" 576 (.int 90 575),en P "__init__" 586 (.ref 177),en P "_get_nodeinfo" 595 (.ref 184),en P "add" 607 (.ref 191),en P "prepare" 613 (.ref 196),en P "get_ready" 623 (.ref 203),en P "is_active" 630 (.ref 210),en P "__bool__" 637 (.ref 217),en P "done" 651 (.ref 224),en P "_find_cycle" 664 (.ref 231),en P "static_order" 671 (.ref 238),en P "__static_attributes__" 676 (.ref 239),en P "__dict__" 678 (.ref 242),en P "__weakref__" 680 (.ref 243),en P "__doc__" 681 .none] 4,#[]⟩,⟨.type "type",none,.cls {name:="TopologicalSorter",bases:=[.type "object"],mro:=[.ref 241,.type "object"],ns:=240,qualname:="TopologicalSorter",hasDict:=true,slotNames:=[],subclasses:=[],abstract:=false,collection:=none,hasDel:=false},#[none,none,(some (.str "TopologicalSorter" 565)),(some (.str "TopologicalSorter" 573)),(some (.builtin "object.__new__")),(some (.bool true))]⟩,⟨.type "getset_descriptor",none,.fields #[.str "__dict__" 677,.ref 241,.builtin "function.__dict__",.builtin "function.__dict__#set"],#[]⟩,⟨.type "getset_descriptor",none,.fields #[.str "__weakref__" 679,.ref 241,.builtin "ExceptionGroup.__weakref__",.none],#[]⟩,⟨.type "super",none,.fields #[.ref 241,.ref 241,.ref 241],#[]⟩,⟨.type "builtin_function_or_method",none,.fields #[.builtin "object.__init_subclass__",.ref 241],#[]⟩]
noncomputable def H6 (P:aj):List Obj:=FZ P++LK P
noncomputable def Ei (X:Nat->Obj)(Z:Nat->SZ)(P:aj)(os:au):aV:=⟨tr (yS (S8 P) [(53,zO (Z 53)),(52,zO (Z 52)),(43,zO (Z 43))] X (H6 P)) 9 1 0 246,246,{},#[.finished],bB,684,os⟩
noncomputable abbrev ON (P:aj):List dX:=(en P "__name__" 165 (.str "law_oc0294_02" 769))::(Ej P).drop 1++[en P "S_IFMT" 692 (.ref 252),en P "S_IFDIR" 694 (.int 16384 693),en P "S_IFCHR" 696 (.int 8192 695),en P "S_IFBLK" 698 (.int 24576 697),en P "S_IFREG" 700 (.int 32768 699),en P "S_IFIFO" 702 (.int 4096 701),en P "S_IFLNK" 704 (.int 40960 703),en P "S_IFSOCK" 706 (.int 49152 705),en P "S_ISUID" 708 (.int 2048 707),en P "S_ISGID" 710 (.int 1024 709),en P "S_ISVTX" 712 (.int 512 711),en P "S_IRUSR" 714 (.int 256 713),en P "S_IWUSR" 716 (.int 128 715),en P "S_IXUSR" 718 (.int 64 717),en P "S_IRGRP" 720 (.int 32 719),en P "S_IWGRP" 722 (.int 16 721),en P "S_IXGRP" 724 (.int 8 723),en P "S_IROTH" 726 (.int 4 725),en P "S_IWOTH" 728 (.int 2 727),en P "S_IXOTH" 730 (.int 1 729),en P "_filemode_table" 756 (.ref 285),en P "filemode" 768 (.ref 292),en P "_law_records" 776 (.ref 297),en P "_law_words" 782 (.ref 302),en P "_law_sorted" 799 (.ref 309),en P "_law_rounds" 805 (.ref 314),en P "_law_signs" 818 (.ref 321),en P "_law_spoilt" 831 (.ref 328),en P "_law_read" 837 (.ref 333),en P "_law_right" 843 (.ref 338),en P "law" 849 (.ref 343)]
noncomputable def Ni (P:aj):Obj:=⟨.type "dict",none,.dict (ON P).toArray 64,#[]⟩
noncomputable def XA:Obj:=⟨.none,none,.fields #[.int 1 0,.int 0 0,.ref 20,.int 5 0,.int 23 0,.ref 26,.int 14 0,.int 0 0,.ref 62,.int 16 0,.int 0 0,.ref 75,.int 23 0,.int 0 0,.ref 82,.int 35 0,.int 0 0,.ref 89,.int 43 0,.int 0 0,.ref 96,.int 50 0,.int 0 0,.ref 103,.int 59 0,.int 0 0,.ref 110,.int 64 0,.int 0 0,.ref 117,.int 76 0,.int 0 0,.ref 124,.int 81 0,.int 0 0,.ref 131,.int 88 0,.int 0 0,.ref 155,.int 90 0,.int 0 0,.ref 168,.int 197 0,.int 0 0,.ref 251,.int 219 0,.int 0 0,.ref 291,.int 237 0,.int 0 0,.ref 296,.int 243 0,.int 0 0,.ref 301,.int 250 0,.int 0 0,.ref 308,.int 267 0,.int 0 0,.ref 313,.int 277 0,.int 0 0,.ref 320,.int 285 0,.int 0 0,.ref 327,.int 299 0,.int 0 0,.ref 332,.int 315 0,.int 0 0,.ref 337,.int 323 0,.int 0 0,.ref 342],#[]⟩
noncomputable def ac5:Obj:=qO "_law_words" "_law_words" (sA 51)
noncomputable def adq:Obj:=kO "_law_words" 777 "_law_words" 778 779 243 3 0 0 3 298 true 181 299 .none .none (.ref 300) 780 243 781
noncomputable def ado:Obj:=fO "_law_words" "_law_words" (sA 51) .none .none "law_oc0294_02" 769 301
noncomputable def ac0:Obj:=⟨.type "tuple",none,.seq #[.str "records" 786,.str "sorter" 787,.str "ring" 788,.str "rounds" 789,.str "octal" 790,.str "name" 791,.str "needs" 792,.str "need" 793,.str "group" 794,.str "behind" 795,.str "active" 796] 0,#[]⟩
noncomputable def adf:Obj:=qO "_law_sorted" "_law_sorted" (sA 52)
noncomputable def ac3:Obj:=kO "_law_sorted" 783 "_law_sorted" 784 785 250 1 0 0 3 303 true 181 304 (.ref 305) (.ref 306) (.ref 307) 797 250 798
noncomputable def acW:Obj:=fO "_law_sorted" "_law_sorted" (sA 52) .none .none "law_oc0294_02" 769 308
noncomputable def ac2:Obj:=qO "_law_rounds" "_law_rounds" (sA 53)
noncomputable def adl:Obj:=kO "_law_rounds" 800 "_law_rounds" 801 802 267 1 0 0 3 310 true 181 311 .none .none (.ref 312) 803 267 804
noncomputable def adB:Obj:=fO "_law_rounds" "_law_rounds" (sA 53) .none .none "law_oc0294_02" 769 313
noncomputable def adJ:Obj:=⟨.type "tuple",none,.seq #[.str "octal" 809,.str "kinds" 810,.str "signs" 811,.str "k" 812,.str "three" 813,.str "own" 814,.str "last" 815] 0,#[]⟩
noncomputable def adA:Obj:=qO "_law_signs" "_law_signs" (sA 54)
noncomputable def acZ:Obj:=kO "_law_signs" 806 "_law_signs" 807 808 277 1 0 0 3 315 true 181 316 (.ref 317) (.ref 318) (.ref 319) 816 277 817
noncomputable def adw:Obj:=fO "_law_signs" "_law_signs" (sA 54) .none .none "law_oc0294_02" 769 320
noncomputable def ac4:Obj:=⟨.type "tuple",none,.seq #[.str "texts" 822,.str "place" 823,.str "way" 824,.str "name" 825,.str "text" 826,.str "rest" 827,.str "mark" 828] 0,#[]⟩
noncomputable def adL:Obj:=qO "_law_spoilt" "_law_spoilt" (sA 55)
noncomputable def adE:Obj:=kO "_law_spoilt" 819 "_law_spoilt" 820 821 285 4 0 0 3 322 true 181 323 (.ref 324) (.ref 325) (.ref 326) 829 285 830
noncomputable def ada:Obj:=fO "_law_spoilt" "_law_spoilt" (sA 55) .none .none "law_oc0294_02" 769 327
noncomputable def adp:Obj:=qO "_law_read" "_law_read" (sA 56)
noncomputable def ac6:Obj:=kO "_law_read" 832 "_law_read" 833 834 299 1 0 0 3 329 true 181 330 .none .none (.ref 331) 835 299 836
noncomputable def acY:Obj:=fO "_law_read" "_law_read" (sA 56) .none .none "law_oc0294_02" 769 332
noncomputable def acX:Obj:=qO "_law_right" "_law_right" (sA 57)
noncomputable def adh:Obj:=kO "_law_right" 838 "_law_right" 839 840 315 2 0 0 3 334 true 181 335 .none .none (.ref 336) 841 315 842
noncomputable def acQ:Obj:=fO "_law_right" "_law_right" (sA 57) .none .none "law_oc0294_02" 769 337
noncomputable def adx:Obj:=qO "law" "law" (sA 58)
noncomputable def ac8:Obj:=kO "law" 844 "law" 845 846 323 1 0 0 3 339 true 181 340 .none .none (.ref 341) 847 323 848
noncomputable def adH:Obj:=fO "law" "law" (sA 58) .none .none "law_oc0294_02" 769 342
noncomputable def SY (P:aj):List Obj:=((pN P).set 3 (Ni P)).set 12 XA
noncomputable def O3 (P:aj):List Obj:=H6 P++[pm,KK,⟨.type "tuple",none,.seq #[.str "mode" 689] 0,#[]⟩,pm,qO "S_IFMT" "S_IFMT" (sA 27),kO "S_IFMT" 686 "S_IFMT" 687 688 197 1 0 0 3 246 true 181 247 (.ref 248) (.ref 249) (.ref 250) 690 197 691,fO "S_IFMT" "S_IFMT" (sA 27) .none .none "cpy313.stat" 684 251,⟨.type "tuple",none,.seq #[.int 40960 703,.str "l" 731] 0,#[]⟩,⟨.type "tuple",none,.seq #[.int 49152 705,.str "s" 732] 0,#[]⟩,⟨.type "tuple",none,.seq #[.int 32768 699,.str "-" 733] 0,#[]⟩,⟨.type "tuple",none,.seq #[.int 24576 697,.str "b" 734] 0,#[]⟩,⟨.type "tuple",none,.seq #[.int 16384 693,.str "d" 735] 0,#[]⟩,⟨.type "tuple",none,.seq #[.int 8192 695,.str "c" 736] 0,#[]⟩,⟨.type "tuple",none,.seq #[.int 4096 701,.str "p" 737] 0,#[]⟩,⟨.type "tuple",none,.seq #[.ref 253,.ref 254,.ref 255,.ref 256,.ref 257,.ref 258,.ref 259] 0,#[]⟩,⟨.type "tuple",none,.seq #[.int 256 713,.str "r" 738] 0,#[]⟩,⟨.type "tuple",none,.seq #[.ref 261] 0,#[]⟩,⟨.type "tuple",none,.seq #[.int 128 715,.str "w" 739] 0,#[]⟩,⟨.type "tuple",none,.seq #[.ref 263] 0,#[]⟩,⟨.type "tuple",none,.seq #[.int 2112 740,.str "s" 741] 0,#[]⟩,⟨.type "tuple",none,.seq #[.int 2048 707,.str "S" 742] 0,#[]⟩,⟨.type "tuple",none,.seq #[.int 64 717,.str "x" 743] 0,#[]⟩,⟨.type "tuple",none,.seq #[.ref 265,.ref 266,.ref 267] 0,#[]⟩,⟨.type "tuple",none,.seq #[.int 32 719,.str "r" 744] 0,#[]⟩,⟨.type "tuple",none,.seq #[.ref 269] 0,#[]⟩,⟨.type "tuple",none,.seq #[.int 16 721,.str "w" 745] 0,#[]⟩,⟨.type "tuple",none,.seq #[.ref 271] 0,#[]⟩,⟨.type "tuple",none,.seq #[.int 1032 746,.str "s" 747] 0,#[]⟩,⟨.type "tuple",none,.seq #[.int 1024 709,.str "S" 748] 0,#[]⟩,⟨.type "tuple",none,.seq #[.int 8 723,.str "x" 749] 0,#[]⟩,⟨.type "tuple",none,.seq #[.ref 273,.ref 274,.ref 275] 0,#[]⟩,⟨.type "tuple",none,.seq #[.int 4 725,.str "r" 750] 0,#[]⟩,⟨.type "tuple",none,.seq #[.ref 277] 0,#[]⟩,⟨.type "tuple",none,.seq #[.int 2 727,.str "w" 751] 0,#[]⟩,⟨.type "tuple",none,.seq #[.ref 279] 0,#[]⟩,⟨.type "tuple",none,.seq #[.int 513 752,.str "t" 753] 0,#[]⟩,⟨.type "tuple",none,.seq #[.int 512 711,.str "T" 754] 0,#[]⟩,⟨.type "tuple",none,.seq #[.int 1 729,.str "x" 755] 0,#[]⟩,⟨.type "tuple",none,.seq #[.ref 281,.ref 282,.ref 283] 0,#[]⟩,⟨.type "tuple",none,.seq #[.ref 260,.ref 262,.ref 264,.ref 268,.ref 270,.ref 272,.ref 276,.ref 278,.ref 280,.ref 284] 0,#[]⟩,pm,KK,⟨.type "tuple",none,.seq #[.str "mode" 760,.str "perm" 761,.str "index" 762,.str "table" 763,.str "bit" 764,.str "char" 765] 0,#[]⟩,pm,qO "filemode" "filemode" (sA 48),kO "filemode" 757 "filemode" 758 759 219 1 0 0 3 286 true 181 287 (.ref 288) (.ref 289) (.ref 290) 766 219 767,fO "filemode" "filemode" (sA 48) .none .none "cpy313.stat" 684 291,pm,KK,qO "_law_records" "_law_records" (sA 50),kO "_law_records" 771 "_law_records" 772 773 237 1 0 0 3 293 true 181 294 .none .none (.ref 295) 774 237 775,fO "_law_records" "_law_records" (sA 50) .none .none "law_oc0294_02" 769 296,pm,KK,qO "_law_words" "_law_words" (sA 51),kO "_law_words" 777 "_law_words" 778 779 243 3 0 0 3 298 true 181 299 .none .none (.ref 300) 780 243 781,fO "_law_words" "_law_words" (sA 51) .none .none "law_oc0294_02" 769 301,pm,KK,⟨.type "tuple",none,.seq #[.str "records" 786,.str "sorter" 787,.str "ring" 788,.str "rounds" 789,.str "octal" 790,.str "name" 791,.str "needs" 792,.str "need" 793,.str "group" 794,.str "behind" 795,.str "active" 796] 0,#[]⟩,pm,qO "_law_sorted" "_law_sorted" (sA 52),kO "_law_sorted" 783 "_law_sorted" 784 785 250 1 0 0 3 303 true 181 304 (.ref 305) (.ref 306) (.ref 307) 797 250 798,fO "_law_sorted" "_law_sorted" (sA 52) .none .none "law_oc0294_02" 769 308,pm,KK,qO "_law_rounds" "_law_rounds" (sA 53),kO "_law_rounds" 800 "_law_rounds" 801 802 267 1 0 0 3 310 true 181 311 .none .none (.ref 312) 803 267 804,fO "_law_rounds" "_law_rounds" (sA 53) .none .none "law_oc0294_02" 769 313,pm,KK,⟨.type "tuple",none,.seq #[.str "octal" 809,.str "kinds" 810,.str "signs" 811,.str "k" 812,.str "three" 813,.str "own" 814,.str "last" 815] 0,#[]⟩,pm,qO "_law_signs" "_law_signs" (sA 54),kO "_law_signs" 806 "_law_signs" 807 808 277 1 0 0 3 315 true 181 316 (.ref 317) (.ref 318) (.ref 319) 816 277 817,fO "_law_signs" "_law_signs" (sA 54) .none .none "law_oc0294_02" 769 320,pm,KK,⟨.type "tuple",none,.seq #[.str "texts" 822,.str "place" 823,.str "way" 824,.str "name" 825,.str "text" 826,.str "rest" 827,.str "mark" 828] 0,#[]⟩,pm,qO "_law_spoilt" "_law_spoilt" (sA 55),kO "_law_spoilt" 819 "_law_spoilt" 820 821 285 4 0 0 3 322 true 181 323 (.ref 324) (.ref 325) (.ref 326) 829 285 830,fO "_law_spoilt" "_law_spoilt" (sA 55) .none .none "law_oc0294_02" 769 327,pm,KK,qO "_law_read" "_law_read" (sA 56),kO "_law_read" 832 "_law_read" 833 834 299 1 0 0 3 329 true 181 330 .none .none (.ref 331) 835 299 836,fO "_law_read" "_law_read" (sA 56) .none .none "law_oc0294_02" 769 332,pm,KK,qO "_law_right" "_law_right" (sA 57),kO "_law_right" 838 "_law_right" 839 840 315 2 0 0 3 334 true 181 335 .none .none (.ref 336) 841 315 842,fO "_law_right" "_law_right" (sA 57) .none .none "law_oc0294_02" 769 337,pm,KK,qO "law" "law" (sA 58),kO "law" 844 "law" 845 846 323 1 0 0 3 339 true 181 340 .none .none (.ref 341) 847 323 848,fO "law" "law" (sA 58) .none .none "law_oc0294_02" 769 342]
noncomputable def pi (X:Nat->Obj)(Z:Nat->SZ)(P:aj)(os:au):aV:=⟨tr (yS (SY P) [(53,zO (Z 53)),(52,zO (Z 52)),(43,zO (Z 43))] X (O3 P)) 9 1 0 344,344,{},#[.finished],bB,850,os⟩
end
theorem Uz (w:aA)(os:au)(rest:List aC)(X:Nat->Obj)(Z:Nat->SZ):NE pp w 475 (BR X Z w.params os) (at_ (sA 11::sA 12::sA 13::sA 14::sA 15::sA 16::sA 17::sA 18::sA 19::sA 20::sA 21::sA 22::rest) ⟨13,0,13,14⟩)=some (Fb X Z w.params os,at_ rest ⟨80,0,80,10⟩):=by kernel_rfl
theorem VQ (w:aA)(os:au)(rest:List aC)(X:Nat->Obj)(Z:Nat->SZ):NE pp w 976 (Fb X Z w.params os) (at_ (sA 23::sA 24::sA 25::rest) ⟨80,0,80,10⟩)=some (Ei X Z w.params os,at_ rest ⟨90,0,195,16⟩):=by kernel_rfl
theorem O4 (w:aA)(os:au)(rest:List aC)(X:Nat->Obj)(Z:Nat->SZ):NE pp w 678 (Ei X Z w.params os) (at_ (sA 26::sA 27::sA 28::sA 29::sA 30::sA 31::sA 32::sA 33::sA 34::sA 35::sA 36::sA 37::sA 38::sA 39::sA 40::sA 41::sA 42::sA 43::sA 44::sA 45::sA 46::sA 47::sA 48::sA 49::sA 50::sA 51::sA 52::sA 53::sA 54::sA 55::sA 56::sA 57::sA 58::rest) ⟨90,0,195,16⟩)=some (pi X Z w.params os,at_ rest ⟨323,0,329,123⟩):=by kernel_rfl
noncomputable def Bc:bA:=⟨.pure (.done (.ret .none)),.builtin "claim.caller" {},default,[]⟩
theorem Vt (w:aA)(os:au)(X:Nat->Obj)(Z:Nat->SZ):NE pp w 1 (pi X Z w.params os) (at_ [] ⟨323,0,329,123⟩)=some (pi X Z w.params os,Bc):=by kernel_rfl
noncomputable section
noncomputable def Jt (P:aj):List Obj:=(((pN P).take 15).set 3 (boot_o_3 P)).set 12 KK
def Sb (X:Nat->Obj)(Z:Nat->SZ)(P:aj)(os:au):aV:=⟨tr (λ i=>(Jt P).getD i default) 6 1 0 15,15,{},#[],bB,187,os⟩
noncomputable def Qt (P:aj):List Obj:=(Jt P).take 11
noncomputable def S0 (P:aj)(os:au):aV:=⟨tr (λ i=>(Qt P).getD i default) 6 1 0 11,11,{},#[],bB,181,os⟩
end
noncomputable def dA (k:Nat):List aC:=(behindTheImports pp).drop k
theorem Yc (w:aA)(os:au)(X:Nat->Obj)(Z:Nat->SZ):NE pp w 12 (S0 w.params os) (topStub pp)=some (Sb X Z w.params os,gC cE default fB):=by kernel_rfl
theorem Nr (w:aA)(os:au)(X:Nat->Obj)(Z:Nat->SZ):NE pp w 38 (Sb X Z w.params os) (at_ (dA 0) default)=some (S1 X Z w.params os,at_ (dA 2) ⟨4,0,4,8⟩):=by kernel_rfl
theorem Oq:blockStart (behindTheImports pp) ev=aq ():=by kernel_rfl
theorem Xh:mG cE default fB=at_ (dA 0) default:=by
 show(⟨bJ aX (.body (behindTheImports pp) ev),cE,default,fB⟩:bA)=_;rw[body_wrap,Oq]
 rfl
theorem Wf:dA 2=sA 2::dA 3:=by kernel_rfl
theorem Zc:dA 3=sA 3::dA 4:=by kernel_rfl
theorem Nf:dA 4=sA 4::sA 5::sA 6::dA 7:=by kernel_rfl
theorem YF:dA 7=sA 7::dA 8:=by kernel_rfl
theorem N4:dA 8=sA 8::sA 9::sA 10::dA 11:=by kernel_rfl
theorem VG:dA 11=sA 11::sA 12::sA 13::sA 14::sA 15::sA 16::sA 17::sA 18::sA 19::sA 20::sA 21::sA 22::sA 23::sA 24::sA 25::sA 26::sA 27::sA 28::sA 29::sA 30::sA 31::sA 32::sA 33::sA 34::sA 35::sA 36::sA 37::sA 38::sA 39::sA 40::sA 41::sA 42::sA 43::sA 44::sA 45::sA 46::sA 47::sA 48::sA 49::sA 50::sA 51::sA 52::sA 53::sA 54::sA 55::sA 56::sA 57::sA 58::[]:=by kernel_rfl
theorem Wk (w:aA)(os:au):(S0 w.params os).abs=⟨boot_heap w.params,#[],bB,boot_toks,os⟩:=by kernel_rfl
theorem W3 {a b i:Nat}(h:i % 2=1):b+a * i=a+b+2 * a * (i / 2):=by
 rw[show a * i=a * (2 * (i / 2)+1) by rw[<-h,Nat.div_add_mod],Nat.mul_add,Nat.mul_one,<-Nat.mul_assoc,Nat.mul_comm a 2,iG _ a,<-Nat.add_assoc,iG b a]
theorem RA {i:Nat}(h0:¬i=0)(h:¬i % 2=1):i=2 * (i / 2 - 1)+2:=by
 have d:=Nat.div_add_mod i 2;rw[(Nat.mod_two_eq_zero_or_one i).resolve_right h,Nat.add_zero] at d;have p:0<i / 2:=Nat.pos_of_ne_zero λ z=>h0 (by rw[<-d,z])
 exact(d.symm.trans (congrArg (2 * ·) (Nat.sub_add_cancel p).symm)).trans (Nat.mul_succ 2 _)
theorem NQ {a b i:Nat}(h0:¬i=0)(h:¬i % 2=1):b+a * i=2 * a+b+2 * a * (i / 2 - 1):=by
 rw[show a * i=a * (2 * (i / 2 - 1)+2) by rw[<-RA h0 h],Nat.mul_add,<-Nat.mul_assoc,Nat.mul_comm a 2,iG _ (2 * a),<-Nat.add_assoc,(iG b)]
theorem S5 {i m:Nat}(h0:¬i=0)(h:i+1<m * 2):i / 2 - 1+1<m/\(i % 2=1->i / 2+1<m):=by
 refine⟨?_,λ e=>?_⟩
 .by_cases z:i / 2=0
  .rw[z];exact Nat.lt_of_mul_lt_mul_right (a:=2) (c7 (Nat.succ_le_succ (Nat.pos_of_ne_zero h0)) h)
  .rw[Nat.sub_add_cancel (Nat.pos_of_ne_zero z)];exact Nat.div_lt_of_lt_mul (Nat.mul_comm m 2▸II h)
 .have d:=Nat.div_add_mod i 2;rw[e] at d;rw[<-d,Nat.mul_comm m 2] at h;exact Nat.lt_of_mul_lt_mul_left (a:=2) h
theorem SD (f:Nat->Obj)(n:Nat):∀(F a b i:Nat),i+1<2 ^ F->b+a * i<n->0<a->(tr f F a b n).get i=some (f (b+a * i)):=by
 intro L
 induction L with
 |zero=>
  intro a b i D h H;exact absurd D (Nat.not_lt.mpr (eb 1 i))
 |succ F G=>
  intro a b i D h H;have M:dI b n=true:=Nat.ble_eq_true_of_le (c7 (dW ..) h);have J:0<2 * a:=Nat.mul_pos (by decide) H;show BT.get (tr.match_1 (λ _=>BT) (dI b n) _ _) i=_;rw[M];dsimp only;rw[BT.get_node]
  by_cases C:i=0
  .subst C;rfl
  .rw[if_neg C];obtain⟨N,q2⟩:x02:=S5 C (Nat.pow_succ 2 F▸D)
   by_cases B:i % 2=1
   .rw[if_pos B];rw[W3 (b:=b) (a:=a) B] at h ⊢;exact G (2 * a) (a+b) (i / 2) (q2 B) h J
   .rw[if_neg B];rw[NQ (b:=b) (a:=a) C B] at h ⊢;exact G (2 * a) (2 * a+b) (i / 2 - 1) N h J
theorem Ed {h:Heap}{i:Nat}{o:Obj}(e:h.get? i=some o):h.objs[i]? = some o:=by
 exact(Heap.get?_eq_some h i o |>.mp e).1
theorem v7 {h':Heap}{n:Nat}{L:List Obj}{D:List (Nat×Obj)}(T:BT)(G:T=tr (λ i=>(IN L D i).getD (h'.objs.getD i default)) 6 1 0 n)(N:n<=62)(Z:h'.objs.size=n)
  (O:∀i:Nat,i<22->h'.get? i=some (L.getD i default)) (hz:∀p∈D,h'.get? p.1=some p.2):h'=absHeap T n h'.life:=by
 have C:∀i,i<n->(T.get i).getD default=h'.objs.getD i default:=by
  intro i B;rw[G,SD _ n 6 1 0 i (by have:(2:Nat) ^ 6=64:=rfl;exact fK (av B N) rfl) (by lia) (by decide)];rw[lP,Nat.one_mul,Option.getD_some];unfold IN
  cases H:dI i 22 with
  |true=>
   have:=Ed (O i (eE H));rw[vq,this];rfl
  |false=>
   dsimp only
   cases J:D.lookup i with
   |none=>rfl
   |some o=>
    apply bd;intro R;obtain⟨Y,U,M,_⟩:=List.lookup_eq_some_iff.mp J;apply R;have:=Ed (hz (i,o) (by rw[M];simp));rw[vq,this];rfl
 have:h'.objs=(absHeap T n h'.life).objs:=by
  apply Array.ext_getElem?;intro i;rw[absHeap_at]
  by_cases B:i<n
  .rw[if_pos B,C i B,vi (by lia),vq,vi (by lia)];rfl
  .rw[if_neg B,Array.getElem?_eq_none (by lia)]
 obtain(⟨os,lf⟩):=h';show Heap.mk _ _=Heap.mk _ _;exact congrArg (Heap.mk · lf) this
noncomputable def rY (o:Obj):Bool:=match o.data with | .freed=>false|_=>true
theorem UH {o:Obj}(h:rY o=true):alive o=some o:=by
 obtain(⟨c,d,B,C⟩):=o;cases B<;>first|rfl|cases h
theorem Pv {S:aV}{i:Nat}{o:Obj}(h:S.tree.get i=some o)(hi:i<S.n)(B:rY o=true):S.abs.heap.get? i=some o:=(abs_get hi h).trans (UH B)
theorem kH {S:aV}{L:List Obj}(h:(bj 22).map S.tree.get=L.map some)(D:L.all rY=true)(C:22<=S.n):∀i:Nat,i<22->S.abs.heap.get? i=some (L.getD i default):=by
 intro i B;have G:L.length=22:=by have:=congrArg List.length h;simpa using this.symm
 have e:((bj 22).map S.tree.get)[i]? = (L.map some)[i]?:=by rw[h]
 rw[cM,List.getElem?_range B,cM,dc (by lia)] at e;have e:S.tree.get i=some L[i]:=by simpa using e
 have e2:L.getD i default=L[i]:=by rw[rL,dc (by lia)];rfl
 rw[e2];exact Pv e (gb B C) (j6.mp D _ (List.getElem_mem _))
noncomputable def A0:aD:={handled:=none,depth:=500,units:=500}
theorem wh {c:Code}{F:List Frame}(h:fj F=true):(Ctx.of c F).Below A0:=by
 unfold fj at h;rw[fG,fG] at h;obtain⟨⟨D,G⟩,C⟩:x02:=h;refine And.intro (Option.isNone_iff_eq_none.mp D) (And.intro (eE G) (And.intro ?_ (And.intro ?_ (eE C))))
 .intro l B;cases B
 .intro l B;cases B
section
variable {p:aK}
theorem JJ (led:Bool):wE p w #[] (.fresh 0 0 led) (λ _=>false) 0:=
 ⟨λ e B=>(by cases B),λ k=>⟨λ h=>(by cases h),λ⟨e,B,_⟩=>(by cases B)⟩,.nil,rfl,⟨rfl,rfl,rfl⟩,by decide⟩
theorem ui {SA:aV}{a it:Addr}{x:Str}{t:Tok}{led:Bool}{L:List Obj}{ks:List (Nat×Obj)}{TB:(Nat->Obj)->SZ->BT}{F:List Frame}{pos:Pos}
  (I:fj F=true) (d:∀i:Nat,i<22->SA.abs.heap.get? i=some (L.getD i default)) (f:SA.abs.heap.get? a=some (up #[] 0 (.fresh 0 0 led)))
  (hi:SA.abs.heap.get? it=some {cls:=.type "str_ascii_iterator",data:=.fields #[.str x t,.int 0 0]}) (Z:∀p∈ks,SA.abs.heap.get? p.1=some p.2/\p.1∉[a,it]) (T:a≠it) (acS:@LE.le Nat _ 22 a) (Bw:@LE.le Nat _ 22 it)
  (hx:x.cps.size<77) (E:x.cps.toList.Nodup) (Q:SA.n+2<=62) (V:∀X z,TB X z=tr (λ i=>(IN L ((a,zO z)::ks) i).getD (X i)) 6 1 0 (SA.n+2)):
  ∃X z O U,wE p w z.1 z.2.2 (λ k=>x.cps.toList.any λ c=>k==(⟨#[c]⟩:Str)) x.cps.size /\
   Goes p w SA.abs (mG (ju a it) pos F) (SharedT.mk (TB X z) (SA.n+2) SA.life SA.gens SA.drawn (SA.toks+2 * x.cps.size) SA.os).abs (eA .none O U F):=by
 have H:=W0 (pg:=p) (w:=w) (A:=A0) (x:=x) (t:=t)
  (R:=λ r Y=>∃C B pt wS,xz [a,it] 2 SA.abs.heap C/\C.get? a=some (up B pt wS)/\wE p w B wS (λ k=>x.cps.toList.any λ c=>k==(⟨#[c]⟩:Str)) x.cps.size/\r = .ok (.ret .none)/\Y={SA.abs with heap:=C,toks:=SA.abs.toks+2 * x.cps.size})
  T rfl x.cps.size 0 SA.abs #[] 0 (.fresh 0 0 led) (λ _=>false) 0 (iG ..) f (JJ led) ⟨_,hi,rfl,rfl⟩ (nj hx _) (λ c _=>rfl) (by simpa using E)
  (λ C B pt wS J v6 N=>⟨C,B,pt,wS,J,v6,by simpa using N,rfl,rfl⟩)
 apply bd;intro g;obtain⟨r,Y,O,U,⟨C,B,pt,wS,J,v6,N,rfl,rfl⟩,G⟩:x42:=vV (pos:=pos) H (wh I);apply g;have oT:C.life=SA.life:=by have:=G.life;exact this
 have e:C=absHeap (TB (λ i=>C.objs.getD i default) (B,pt,wS)) (SA.n+2) C.life:=by
  refine v7 _ (V _ _) Q (by rw[J.1];show(absHeap SA.tree SA.n SA.life).objs.size+2=_;rw[absHeap_size]) (λ i kr=>J.get ?_ (d i kr)) λ q M=>?_
  .intro q;simp only[aG,e7,or_false] at q
   rcases q with q|q
   .have q:@Eq Nat i a:=q
    lia
   .have q:@Eq Nat i it:=q
    lia
  .rcases aG.mp M with rfl|M
   .exact v6
   .exact J.get (Z q M).2 (Z q M).1
 refine⟨λ i=>C.objs.getD i default,(B,pt,wS),O,U,N,?_⟩;have:(SharedT.mk (TB (λ i=>C.objs.getD i default) (B,pt,wS)) (SA.n+2) SA.life SA.gens SA.drawn (SA.toks+2 * x.cps.size) SA.os).abs={SA.abs with heap:=C,toks:=SA.abs.toks+2 * x.cps.size}:=by
  show Shared.mk (absHeap _ _ SA.life) _ _ _ _=_;rw[<-oT,<-e];rfl
 rw[this];exact G
theorem Gm {SA:aV}{a b:Addr}{z zo:SZ}{S T:Str->Bool}{n:Nat}{L:List Obj}{ks:List (Nat×Obj)}{TB:(Nat->Obj)->SZ->BT}{F:List Frame}{pos:Pos}
  (j:fj F=true) (o:∀i:Nat,i<22->SA.abs.heap.get? i=some (L.getD i default)) (y:SA.abs.heap.get? a=some (zO z)) (d:SA.abs.heap.get? b=some (zO zo)) (f:wE p w z.1 z.2.2 S n) (V:wE p w zo.1 zo.2.2 T 1) (Z:a≠b)
  (c:∀p∈ks,SA.abs.heap.get? p.1=some p.2) (h0:0<n) (u:n<5\/(5<=n/\e9 (n * 2) - 1=Cl n/\e9 (n * 2)<=128)) (g:n+1<77) (D:¬Cl n * 3<=(n+1) * 5) (tU:∀k,T k=true->S k=false)
  (kr:22<=SA.n) (As:SA.n+1<=62) (m:∀X J,TB X J=tr (λ i=>(IN L ((SA.n,zO J)::ks) i).getD (X i)) 6 1 0 (SA.n+1)):
  ∃X J Y Q,wE p w J.1 J.2.2 (λ k=>S k||T k) (n+1) /\
   Goes p w SA.abs (mG (zY a b) pos F) (SharedT.mk (TB X J) (SA.n+1) SA.life SA.gens SA.drawn SA.toks SA.os).abs (eA (.ref SA.n) Y Q F):=by
 have O:SA.abs.heap.objs.size=SA.n:=absHeap_size ..;have H:=OU (pg:=p) (w:=w) (A:=A0) (s:=SA.abs) (a:=a) (b:=b)
  (R:=λ r E=>∃C B pt wS,xz [] 1 SA.abs.heap C/\C.get? SA.n=some (up B pt wS)/\wE p w B wS (λ k=>S k||T k) (n+1)/\r = .ok (.ret (.ref SA.n))/\E={SA.abs with heap:=C})
  Z y f d V h0 u g D tU (λ C B pt wS N v6 U=>by rw[O] at v6 ⊢;exact⟨C,B,pt,wS,N,v6,U,rfl,rfl⟩)
 apply bd;intro nk;obtain⟨r,E,Y,Q,⟨C,B,pt,wS,N,v6,U,rfl,rfl⟩,G⟩:x42:=vV (pos:=pos) H (wh j);apply nk;have oT:C.life=SA.life:=by have:=G.life;exact this
 have e:C=absHeap (TB (λ i=>C.objs.getD i default) (B,pt,wS)) (SA.n+1) C.life:=by
  refine v7 _ (m _ _) As (by rw[N.1,O]) (λ i kr=>N.get (by simp) (o i kr)) λ q I=>?_
  rcases aG.mp I with rfl|I
  .exact v6
  .exact N.get (by simp) (c q I)
 refine⟨λ i=>C.objs.getD i default,(B,pt,wS),Y,Q,U,?_⟩;have:(SharedT.mk (TB (λ i=>C.objs.getD i default) (B,pt,wS)) (SA.n+1) SA.life SA.gens SA.drawn SA.toks SA.os).abs={SA.abs with heap:=C}:=by
  show Shared.mk (absHeap _ _ SA.life) _ _ _ _=_;rw[<-oT,<-e];rfl
 rw[this];exact G
theorem Xg {SA:aV}{a b:Addr}{z zo:SZ}{S T:Str->Bool}{n:Nat}{L:List Obj}{ks:List (Nat×Obj)}{TB:(Nat->Obj)->SZ->BT}{F:List Frame}{pos:Pos}
  (j:fj F=true) (o:∀i:Nat,i<22->SA.abs.heap.get? i=some (L.getD i default)) (y:SA.abs.heap.get? a=some (zO z)) (d:SA.abs.heap.get? b=some (zO zo)) (f:wE p w z.1 z.2.2 S n) (V:wE p w zo.1 zo.2.2 T 1) (Z:a≠b)
  (c:∀p∈ks,SA.abs.heap.get? p.1=some p.2) (u:n<5\/(5<=n/\e9 (n * 2) - 1=Cl n/\e9 (n * 2)<=128)) (g:7<n) (O:∀k,T k=true->S k=true)
  (kr:22<=SA.n) (As:SA.n+1<=62) (m:∀X D,TB X D=tr (λ i=>(IN L ((SA.n,zO D)::ks) i).getD (X i)) 6 1 0 (SA.n+1)):
  ∃X D Y Q,EQ p w (zO D) (λ k=>S k && !T k) /\
   Goes p w SA.abs (mG (FV a b) pos F) (SharedT.mk (TB X D) (SA.n+1) SA.life SA.gens SA.drawn SA.toks SA.os).abs (eA (.ref SA.n) Y Q F):=by
 have N:SA.abs.heap.objs.size=SA.n:=absHeap_size ..;have H:=Sa (pg:=p) (w:=w) (A:=A0) (s:=SA.abs) (a:=a) (b:=b)
  (R:=λ r E=>∃C B pt wS,xz [] 1 SA.abs.heap C/\C.get? SA.n=some (up B pt wS)/\EQ p w (up B pt wS) (λ k=>S k && !T k)/\r = .ok (.ret (.ref SA.n))/\E={SA.abs with heap:=C})
  Z y f d V u g O (λ C B pt wS M v6 U=>by rw[N] at v6 ⊢;exact⟨C,B,pt,wS,M,v6,U,rfl,rfl⟩)
 apply bd;intro nk;obtain⟨r,E,Y,Q,⟨C,B,pt,wS,M,v6,U,rfl,rfl⟩,G⟩:x42:=vV (pos:=pos) H (wh j);apply nk;have oT:C.life=SA.life:=by have:=G.life;exact this
 have e:C=absHeap (TB (λ i=>C.objs.getD i default) (B,pt,wS)) (SA.n+1) C.life:=by
  refine v7 _ (m _ _) As (by rw[M.1,N]) (λ i kr=>M.get (by simp) (o i kr)) λ q I=>?_
  rcases aG.mp I with rfl|I
  .exact v6
  .exact M.get (by simp) (c q I)
 refine⟨λ i=>C.objs.getD i default,(B,pt,wS),Y,Q,U,?_⟩;have:(SharedT.mk (TB (λ i=>C.objs.getD i default) (B,pt,wS)) (SA.n+1) SA.life SA.gens SA.drawn SA.toks SA.os).abs={SA.abs with heap:=C}:=by
  show Shared.mk (absHeap _ _ SA.life) _ _ _ _=_;rw[<-oT,<-e];rfl
 rw[this];exact G
end
theorem M8 (X:Nat->Obj)(Z:Nat->SZ)(P:aj)(os:au):∀i:Nat,i<22->(A2 X Z P os).abs.heap.get? i=some ((di P).getD i default):=kH (S:=A2 X Z P os) (by kernel_rfl) (by kernel_rfl) (by show 22<=30;decide)
theorem YQ (X:Nat->Obj)(Z:Nat->SZ)(P:aj)(os:au):∀i:Nat,i<22->(C2 X Z P os).abs.heap.get? i=some ((di P).getD i default):=kH (S:=C2 X Z P os) (by kernel_rfl) (by kernel_rfl) (by show 22<=36;decide)
theorem U2 (X:Nat->Obj)(Z:Nat->SZ)(P:aj)(os:au):∀i:Nat,i<22->(D2 X Z P os).abs.heap.get? i=some ((di P).getD i default):=kH (S:=D2 X Z P os) (by kernel_rfl) (by kernel_rfl) (by show 22<=38;decide)
theorem PZ (X:Nat->Obj)(Z:Nat->SZ)(P:aj)(os:au):∀i:Nat,i<22->(A3 X Z P os).abs.heap.get? i=some ((jF P).getD i default):=kH (S:=A3 X Z P os) (by kernel_rfl) (by kernel_rfl) (by show 22<=41;decide)
theorem Vz (X:Nat->Obj)(Z:Nat->SZ)(P:aj)(os:au):∀i:Nat,i<22->(B3 X Z P os).abs.heap.get? i=some ((jF P).getD i default):=kH (S:=B3 X Z P os) (by kernel_rfl) (by kernel_rfl) (by show 22<=43;decide)
theorem XE (X:Nat->Obj)(Z:Nat->SZ)(P:aj)(os:au):∀i:Nat,i<22->(A6 X Z P os).abs.heap.get? i=some ((rX P).getD i default):=kH (S:=A6 X Z P os) (by kernel_rfl) (by kernel_rfl) (by show 22<=46;decide)
theorem Xx (X:Nat->Obj)(Z:Nat->SZ)(P:aj)(os:au):∀i:Nat,i<22->(A7 X Z P os).abs.heap.get? i=some ((jw P).getD i default):=kH (S:=A7 X Z P os) (by kernel_rfl) (by kernel_rfl) (by show 22<=50;decide)
theorem XG (X:Nat->Obj)(Z:Nat->SZ)(P:aj)(os:au):∀i:Nat,i<22->(B7 X Z P os).abs.heap.get? i=some ((jw P).getD i default):=kH (S:=B7 X Z P os) (by kernel_rfl) (by kernel_rfl) (by show 22<=52;decide)
theorem OL (X:Nat->Obj)(Z:Nat->SZ)(P:aj)(os:au):∀i:Nat,i<22->(g9 X Z P os).abs.heap.get? i=some ((sr P).getD i default):=kH (S:=g9 X Z P os) (by kernel_rfl) (by kernel_rfl) (by show 22<=55;decide)
theorem Ph (X:Nat->Obj)(Z:Nat->SZ)(P:aj)(os:au):(A2 X Z P os).abs.heap.get? 29=some (up #[] 0 (.fresh 0 0 (!P.followText "set-order"))):=Pv (S:=A2 X Z P os) (by kernel_rfl) (by show 29<30;decide) (by kernel_rfl)
theorem Yh (X:Nat->Obj)(Z:Nat->SZ)(P:aj)(os:au):(A2 X Z P os).abs.heap.get? 23=some ({cls:=.type "range_iterator",dict:=none,data:=.fields #[bx 0,bx 32,bx 1],slots:=#[]}):=Pv (S:=A2 X Z P os) (by kernel_rfl) (by show 23<30;decide) (by kernel_rfl)
theorem R2 (X:Nat->Obj)(Z:Nat->SZ)(P:aj)(os:au):(C2 X Z P os).abs.heap.get? 29=some (zO (Z 29)):=Pv (S:=C2 X Z P os) (by kernel_rfl) (by show 29<36;decide) (by kernel_rfl)
theorem VN (X:Nat->Obj)(Z:Nat->SZ)(P:aj)(os:au):(C2 X Z P os).abs.heap.get? 34=some (up #[] 0 (.fresh 0 0 (!P.followText "set-order"))):=Pv (S:=C2 X Z P os) (by kernel_rfl) (by show 34<36;decide) (by kernel_rfl)
theorem Sx (X:Nat->Obj)(Z:Nat->SZ)(P:aj)(os:au):(C2 X Z P os).abs.heap.get? 35=some ({cls:=.type "str_ascii_iterator",data:=.fields #[(.str ⟨#[127]⟩ 336),.int 0 0]}):=Pv (S:=C2 X Z P os) (by kernel_rfl) (by show 35<36;decide) (by kernel_rfl)
theorem Ou (X:Nat->Obj)(Z:Nat->SZ)(P:aj)(os:au):(D2 X Z P os).abs.heap.get? 29=some (zO (Z 29)):=Pv (S:=D2 X Z P os) (by kernel_rfl) (by show 29<38;decide) (by kernel_rfl)
theorem Sj (X:Nat->Obj)(Z:Nat->SZ)(P:aj)(os:au):(D2 X Z P os).abs.heap.get? 34=some (zO (Z 34)):=Pv (S:=D2 X Z P os) (by kernel_rfl) (by show 34<38;decide) (by kernel_rfl)
theorem UT (X:Nat->Obj)(Z:Nat->SZ)(P:aj)(os:au):(A3 X Z P os).abs.heap.get? 38=some (zO (Z 38)):=Pv (S:=A3 X Z P os) (by kernel_rfl) (by show 38<41;decide) (by kernel_rfl)
theorem Qo (X:Nat->Obj)(Z:Nat->SZ)(P:aj)(os:au):(A3 X Z P os).abs.heap.get? 39=some (up #[] 0 (.fresh 0 0 (!P.followText "set-order"))):=Pv (S:=A3 X Z P os) (by kernel_rfl) (by show 39<41;decide) (by kernel_rfl)
theorem Vj (X:Nat->Obj)(Z:Nat->SZ)(P:aj)(os:au):(A3 X Z P os).abs.heap.get? 40=some ({cls:=.type "str_ascii_iterator",data:=.fields #[(.str ⟨#[9]⟩ 340),.int 0 0]}):=Pv (S:=A3 X Z P os) (by kernel_rfl) (by show 40<41;decide) (by kernel_rfl)
theorem YS (X:Nat->Obj)(Z:Nat->SZ)(P:aj)(os:au):(B3 X Z P os).abs.heap.get? 38=some (zO (Z 38)):=Pv (S:=B3 X Z P os) (by kernel_rfl) (by show 38<43;decide) (by kernel_rfl)
theorem P7 (X:Nat->Obj)(Z:Nat->SZ)(P:aj)(os:au):(B3 X Z P os).abs.heap.get? 39=some (zO (Z 39)):=Pv (S:=B3 X Z P os) (by kernel_rfl) (by show 39<43;decide) (by kernel_rfl)
theorem Rh (X:Nat->Obj)(Z:Nat->SZ)(P:aj)(os:au):(A6 X Z P os).abs.heap.get? 43=some (zO (Z 43)):=Pv (S:=A6 X Z P os) (by kernel_rfl) (by show 43<46;decide) (by kernel_rfl)
theorem Y4 (X:Nat->Obj)(Z:Nat->SZ)(P:aj)(os:au):(A6 X Z P os).abs.heap.get? 44=some (up #[] 0 (.fresh 0 0 (!P.followText "set-order"))):=Pv (S:=A6 X Z P os) (by kernel_rfl) (by show 44<46;decide) (by kernel_rfl)
theorem RS (X:Nat->Obj)(Z:Nat->SZ)(P:aj)(os:au):(A6 X Z P os).abs.heap.get? 45=some ({cls:=.type "str_ascii_iterator",data:=.fields #[(.str ⟨#[32,9]⟩ 346),.int 0 0]}):=Pv (S:=A6 X Z P os) (by kernel_rfl) (by show 45<46;decide) (by kernel_rfl)
theorem NK (X:Nat->Obj)(Z:Nat->SZ)(P:aj)(os:au):(A7 X Z P os).abs.heap.get? 43=some (zO (Z 43)):=Pv (S:=A7 X Z P os) (by kernel_rfl) (by show 43<50;decide) (by kernel_rfl)
theorem Qb (X:Nat->Obj)(Z:Nat->SZ)(P:aj)(os:au):(A7 X Z P os).abs.heap.get? 44=some (zO (Z 44)):=Pv (S:=A7 X Z P os) (by kernel_rfl) (by show 44<50;decide) (by kernel_rfl)
theorem Ua (X:Nat->Obj)(Z:Nat->SZ)(P:aj)(os:au):(A7 X Z P os).abs.heap.get? 48=some (up #[] 0 (.fresh 0 0 (!P.followText "set-order"))):=Pv (S:=A7 X Z P os) (by kernel_rfl) (by show 48<50;decide) (by kernel_rfl)
theorem Mp (X:Nat->Obj)(Z:Nat->SZ)(P:aj)(os:au):(A7 X Z P os).abs.heap.get? 49=some ({cls:=.type "str_ascii_iterator",data:=.fields #[(.str ⟨#[10]⟩ 352),.int 0 0]}):=Pv (S:=A7 X Z P os) (by kernel_rfl) (by show 49<50;decide) (by kernel_rfl)
theorem Sz (X:Nat->Obj)(Z:Nat->SZ)(P:aj)(os:au):(B7 X Z P os).abs.heap.get? 43=some (zO (Z 43)):=Pv (S:=B7 X Z P os) (by kernel_rfl) (by show 43<52;decide) (by kernel_rfl)
theorem Vf (X:Nat->Obj)(Z:Nat->SZ)(P:aj)(os:au):(B7 X Z P os).abs.heap.get? 44=some (zO (Z 44)):=Pv (S:=B7 X Z P os) (by kernel_rfl) (by show 44<52;decide) (by kernel_rfl)
theorem VD (X:Nat->Obj)(Z:Nat->SZ)(P:aj)(os:au):(B7 X Z P os).abs.heap.get? 48=some (zO (Z 48)):=Pv (S:=B7 X Z P os) (by kernel_rfl) (by show 48<52;decide) (by kernel_rfl)
theorem RQ (X:Nat->Obj)(Z:Nat->SZ)(P:aj)(os:au):(g9 X Z P os).abs.heap.get? 43=some (zO (Z 43)):=Pv (S:=g9 X Z P os) (by kernel_rfl) (by show 43<55;decide) (by kernel_rfl)
theorem QY (X:Nat->Obj)(Z:Nat->SZ)(P:aj)(os:au):(g9 X Z P os).abs.heap.get? 52=some (zO (Z 52)):=Pv (S:=g9 X Z P os) (by kernel_rfl) (by show 52<55;decide) (by kernel_rfl)
theorem Me (X:Nat->Obj)(Z:Nat->SZ)(P:aj)(os:au):(g9 X Z P os).abs.heap.get? 53=some (up #[] 0 (.fresh 0 0 (!P.followText "set-order"))):=Pv (S:=g9 X Z P os) (by kernel_rfl) (by show 53<55;decide) (by kernel_rfl)
theorem WW (X:Nat->Obj)(Z:Nat->SZ)(P:aj)(os:au):(g9 X Z P os).abs.heap.get? 54=some ({cls:=.type "str_ascii_iterator",data:=.fields #[(.str "0123456789abcdefABCDEF" 361),.int 0 0]}):=Pv (S:=g9 X Z P os) (by kernel_rfl) (by show 54<55;decide) (by kernel_rfl)
theorem U0 (X:Nat->Obj)(Z:Nat->SZ)(P:aj)(os:au):(B2 X Z P os).tree=tr (λ i=>(IN (di P) [(29,zO (Z 29))] i).getD (X i)) 6 1 0 34:=by kernel_rfl
theorem WD (X:Nat->Obj)(Z:Nat->SZ)(P:aj)(os:au):(D2 X Z P os).tree=tr (λ i=>(IN (di P) [(34,zO (Z 34)),(29,zO (Z 29))] i).getD (X i)) 6 1 0 38:=by kernel_rfl
theorem QU (X:Nat->Obj)(Z:Nat->SZ)(P:aj)(os:au):(G2 X Z P os).tree=tr (λ i=>(IN (di P) [(38,zO (Z 38))] i).getD (X i)) 6 1 0 39:=by kernel_rfl
theorem Pw (X:Nat->Obj)(Z:Nat->SZ)(P:aj)(os:au):(B3 X Z P os).tree=tr (λ i=>(IN (jF P) [(39,zO (Z 39)),(38,zO (Z 38))] i).getD (X i)) 6 1 0 43:=by kernel_rfl
theorem Od (X:Nat->Obj)(Z:Nat->SZ)(P:aj)(os:au):(G3 X Z P os).tree=tr (λ i=>(IN (jF P) [(43,zO (Z 43))] i).getD (X i)) 6 1 0 44:=by kernel_rfl
theorem RB (X:Nat->Obj)(Z:Nat->SZ)(P:aj)(os:au):(B6 X Z P os).tree=tr (λ i=>(IN (rX P) [(44,zO (Z 44)),(43,zO (Z 43))] i).getD (X i)) 6 1 0 48:=by kernel_rfl
theorem YM (X:Nat->Obj)(Z:Nat->SZ)(P:aj)(os:au):(B7 X Z P os).tree=tr (λ i=>(IN (jw P) [(48,zO (Z 48)),(44,zO (Z 44)),(43,zO (Z 43))] i).getD (X i)) 6 1 0 52:=by kernel_rfl
theorem Vd (X:Nat->Obj)(Z:Nat->SZ)(P:aj)(os:au):(G7 X Z P os).tree=tr (λ i=>(IN (jw P) [(52,zO (Z 52)),(43,zO (Z 43))] i).getD (X i)) 6 1 0 53:=by kernel_rfl
theorem U3 (X:Nat->Obj)(Z:Nat->SZ)(P:aj)(os:au):(Ax X Z P os).tree=tr (λ i=>(IN (sr P) [(53,zO (Z 53)),(52,zO (Z 52)),(43,zO (Z 43))] i).getD (X i)) 6 1 0 57:=by kernel_rfl
theorem iK {w:aA}{n:Nat}{S B:aV}{t C:bA}(h:NE pp w n S t=some (B,C)):Goes pp w S.abs t B.abs C:=Goes.tree (by rw[(DP)];exact h)
theorem jE {w:aA}{n:Nat}{S B:aV}{t:bA}{c:Code}{pos:Pos}{F:List Frame}(h:NE pp w n S t=some (B,gC c pos F)):Goes pp w S.abs t B.abs (mG c pos F):=by
 have:=iK h;rw[Tu] at this;exact this
noncomputable def nV:aF:=sub mx 0
noncomputable def IG:aF:=(Jp mx).iter
noncomputable def HK:Pos:=(Jp mx).target.pos
noncomputable def E5:Pos:=mx.pos
theorem RK:mx = .GeneratorExp nV [⟨.Name "i" HK,IG,[],0⟩] Bs E5:=by kernel_rfl
noncomputable def gF:Pos:=(sub nV 0).pos
noncomputable def gA:Pos:=(sub nV 1).pos
noncomputable def gQ:Pos:=nV.pos
theorem Yd:nV = .Call (.Name "chr" gF) [.Name "i" gA] [] gQ:=by kernel_rfl
theorem Rk {h₀:Heap}{H J:Str->Option Value}(N:h₀.Ns cf H)(O:h₀.Ns iA J)(M:H "chr"=none)(T:J "chr"=some (.builtin "chr")):
  ∀(D:aD) (C:Value->ae->Prop) (Q:Value->ae->Prop) (i:Nat) (tk:Tok) (s₂:ae) B,D.handled=none->i<32->s₂.heap.Ns 27 B->B "i"=some (.int i tk)->(∀b o,b∉[23,27,29]->h₀.get? b=some o->s₂.heap.get? b=some o) ->
   Q (.str ⟨#[i]⟩ s₂.toks) {s₂ with toks:=s₂.toks+1}->ag (af pp w) D (eval nV ms) Q C s₂:=by
 intro D C Q i tk s₂ B I E U Y G q;rw[Yd];show ag _ _ (do du gQ (<-eval (.Name "chr" gF) ms) [] (backTo gQ (starEach [.Name "i" gA] ms)) []) Q C s₂;have R:ms.kindOf "chr"=some .globalImplicit:=by kernel_rfl
 have Z:ms.kindOf "i"=some .local:=by kernel_rfl
 have L:ms.scope.kind = .function:=by kernel_rfl
 refine aa (rv L R (loadGlobal_builtin (N.at' λ o e=>G _ o (by decide) e) M (O.at' λ o e=>G _ o (by decide) e) T ?_));show ag _ _ (du gQ (.builtin "chr") [] [(false,eval (.Name "i" gA) ms)] []) Q C s₂;refine PySem.callWith_builtin1 (wpAny_Name (wpAny_loadName_local L Z U Y ?_) (by decide));exact P.chr_of_int (by simp;lia) q
theorem UW {X:Nat->Obj}{Z:Nat->SZ}{os:au}{F:List Frame}{pos:Pos}(E:fj F=true):
  ∃g z O T,wE pp w z.1 z.2.2 (λ k=>(j9 0 32).any λ c=>k==(⟨#[c]⟩:Str)) 32 /\
   Goes pp w (A2 X Z w.params os).abs (mG (ju 29 28) pos F) (B2 g (λ _=>z) w.params os).abs (eA .none O T F):=by
 have Q:=M8 X Z w.params os;have oN:(A2 X Z w.params os).abs.heap.Ns cf _:=.of_isNs (by kernel_rfl);have qT:(A2 X Z w.params os).abs.heap.Ns iA _:=.of_isNs (by kernel_rfl);have de:(A2 X Z w.params os).abs.heap.Ns cStatics _:=.of_isNs (by kernel_rfl);have tc:=Rk (w:=w) oN qT (by kernel_rfl) (by kernel_rfl);have m:(A2 X Z w.params os).abs.heap.IsGen 28 0:=⟨{cls:=.type "generator",data:=.fields #[.int 0 0,.str "<genexpr>" 205,.str "<genexpr>" 206]},.str "<genexpr>" 205,.str "<genexpr>" 206,Pv (S:=A2 X Z w.params os) (by kernel_rfl) (by show 28<30;decide) (by kernel_rfl),rfl,rfl,rfl⟩;have d:(A2 X Z w.params os).abs.heap.NoLimit:=⟨_,de,by kernel_rfl⟩;have Yu:GI (A2 X Z w.params os).abs.heap 23 27 29 32 0 (A2 X Z w.params os).abs.heap:=⟨Yh X Z w.params os,⟨_,.of_isNs (by kernel_rfl)⟩,λ b o _ e=>e⟩;have e1:mx = .GeneratorExp nV [⟨.Name "i" HK,IG,[],0⟩] Bs E5:=RK;have U:(A2 X Z w.params os).abs.heap.objs.size=30:=absHeap_size ..;have H:=Xm (pg:=pp) (w:=w) (A:=A0) (a:=29) (ga:=28) (I:=23) (C:=27) (N:=32) (h₀:=(A2 X Z w.params os).abs.heap) rfl (by show 500+(ju 29 28).weight<1000;rw[show(ju 29 28).weight=0 by kernel_rfl];decide) (by decide) (by decide) (by decide) (by decide) (by decide) m d
  (R:=λ r Y=>∃D B pt wS,xz [29,23,27] 4 (A2 X Z w.params os).abs.heap D/\D.get? 29=some (up B pt wS)/\wE pp w B wS (λ k=>(j9 0 32).any λ c=>k==(⟨#[c]⟩:Str)) 32/\r = .ok (.ret .none)/\Y={(A2 X Z w.params os).abs with heap:=D,gens:=#[.finished],toks:=335})
  32 0 (A2 X Z w.params os).abs _ #[] 0 (.fresh 0 0 (!w.params.followText "set-order")) (λ _=>false) 0 (by decide) (Ph X Z w.params os) (JJ _) Yu rfl
  (λ cA pX=>⟨rfl,by
   rw[e1];exact Ox (pg:=pp) (w:=w) (A:=(A0.under (.builtin "set.update.loop" ⟨[.ref 29,.ref 28],[]⟩)).in1) (I:=23) (C:=27) (a:=29) (N:=32) (h₀:=(A2 X Z w.params os).abs.heap) (ms:=ms) rfl (by decide) (by decide) (by decide) rfl (by kernel_rfl) (by kernel_rfl) (by kernel_rfl) tc cA pX⟩) (by decide) (λ j _ _=>rfl)
  (λ D B pt wS L v6 M=>⟨D,B,pt,wS,L,v6,by simpa using M,rfl,rfl⟩)
 apply bd;intro f;obtain⟨r,Y,O,T,⟨D,B,pt,wS,L,v6,M,rfl,rfl⟩,G⟩:x42:=vV (pos:=pos) H (wh E);apply f;have oT:D.life={}:=by have:=G.life;exact this
 have e:D=absHeap (B2 (λ i=>D.objs.getD i default) (λ _=>(B,pt,wS)) w.params os).tree 34 D.life:=by
  refine v7 _ (U0 _ _ _ _) (by decide) (by rw[L.1,U]) (λ i kr=>L.get ?_ (Q i kr)) λ q V=>?_
  .intro q;simp only[aG,e7,or_false] at q
   rcases q with q|q|q
   .have q:@Eq Nat i 29:=q
    lia
   .have q:@Eq Nat i 23:=q
    lia
   .have q:@Eq Nat i 27:=q
    lia
  .obtain rfl:=aO.mp V;exact v6
 refine⟨λ i=>D.objs.getD i default,(B,pt,wS),O,T,M,?_⟩;have:(B2 (λ i=>D.objs.getD i default) (λ _=>(B,pt,wS)) w.params os).abs={(A2 X Z w.params os).abs with heap:=D,gens:=#[.finished],toks:=335}:=by
  show Shared.mk (absHeap (B2 _ _ w.params os).tree 34 {}) _ _ _ _=_;rw[<-oT,<-e];rfl
 rw[this];exact G
noncomputable abbrev eC (l:List Nat)(k:Str):Bool:=l.any λ c=>k==(⟨#[c]⟩:Str)
theorem kL {l:List Nat}{k:Str}:eC l k=true↔∃c∈l,k=⟨#[c]⟩:=by simp[eC,pB]
theorem wE.obj {p:aK}{w:aA}{S}(F:wE p w es t S n){B:Str->Bool}(h:∀k,S k=B k):EQ p w (up es ep t) B:=
 ⟨es,ep,t,rfl,F.el,(F.congr h).mem,by rw[F.size];have:=F.small;exact ww this rfl,F.fits⟩
section
variable {os:au}{rest:List aC}
theorem YE (b:Bool)(C:Nat->Obj)(B:Nat->SZ):∃X Z,wE pp (Wb b w) (Z 38).1 (Z 38).2.2 (λ k=>eC (j9 0 32) k||eC [127] k) 33 /\
  Goes pp (Wb b w) (S1 C B (Wb b w).params os).abs (at_ (sA 2::rest) ⟨4,0,4,8⟩) (S2 X Z (Wb b w).params os).abs (at_ rest ⟨5,0,5,10⟩):=by
 apply bd;intro R;obtain⟨u,g⟩:x02:=(wH b w os rest C B C B cE default C B cE default C B cE default).1;obtain⟨G,D,O,J,V,I⟩:x42:=UW (w:=Wb b w) (X:=C) (Z:=B) (os:=os) (pos:=⟨5,13,5,51⟩) g;obtain⟨q2,r⟩:x02:=(wH b w os rest C B G (λ _=>D) O J C B cE default C B cE default).2.1;obtain(⟨M,H,Y,T,f,s9⟩):=ui (w:=Wb b w) (SA:=C2 G (λ _=>D) (Wb b w).params os) (a:=34) (it:=35) (L:=di (Wb b w).params) (ks:=[(29,zO D)]) (TB:=λ X z=>(D2 X (λ i=>if i=34 then z else D) (Wb b w).params os).tree) (pos:=⟨5,54,5,73⟩) r (YQ _ _ _ _) (VN _ _ _ _) (Sx _ _ _ _)
  (λ p N=>by obtain rfl:=aO.mp N;exact⟨R2 _ _ _ _,(by decide:¬((29:Nat)∈([34,35]:List Nat)))⟩) (by decide) (by decide) (by decide) (by decide) (by decide) (by show 36+2<=62;decide) (λ X z=>WD _ _ _ _)
 obtain⟨E,o⟩:x02:=(wH b w os rest C B G (λ _=>D) O J M (λ i=>if i=34 then H else D) Y T C B cE default).2.2.1;obtain⟨U,Q,j,d,m,Zb⟩:x42:=Gm (p:=pp) (w:=Wb b w) (SA:=D2 M (λ i=>if i=34 then H else D) (Wb b w).params os) (a:=29) (b:=34) (z:=D) (zo:=H) (n:=32) (L:=di (Wb b w).params) (ks:=[]) (TB:=λ X z=>(G2 X (λ _=>z) (Wb b w).params os).tree) (pos:=⟨5,13,5,73⟩) o (U2 _ _ _ _) (Ou _ _ _ _) (Sj _ _ _ _) V f (by decide)
  (λ p N=>by cases N) (by decide) (by decide) (by decide) (by decide) (λ k A=>by
   apply bd;intro R;obtain⟨c,q,rfl⟩:=kL.mp A;apply R;obtain rfl:c=127:=by simpa using q
   decide) (by show 22<=38;decide) (by show 38+1<=62;decide) (λ X z=>QU _ _ _ _)
 apply R;have q4:=(wH b w os rest C B G (λ _=>D) O J M (λ i=>if i=34 then H else D) Y T U (λ _=>Q) j d).2.2.2;exact⟨U,λ _=>Q,m,(jE u).trans (I.trans ((jE q2).trans (s9.trans ((jE E).trans (Zb.trans (iK q4))))))⟩
theorem Y3:∀k,((eC (j9 0 32) k||eC [127] k) && !eC [9] k)=ct k:=by
 intro k;rw[(iE),fG,Bool.or_eq_true,(kL),(kL),Bool.not_eq_true',<-Bool.not_eq_true,(kL)];unfold ct
 constructor
 .rintro ⟨⟨c,B,rfl⟩|⟨c,B,rfl⟩,C⟩
  .have B:=(List.mem_range'_1.mp B).2;have:c≠9:=λ e=>C ⟨9,by simp,by rw[e]⟩
   show((decide (c<32)&&c != 9)||c==127)=true
   simp;lia
  .obtain rfl:c=127:=by simpa using B
   rfl
 .intro h;obtain⟨⟨l⟩⟩:=k
  rcases l with _|⟨c,_|⟨d,l⟩⟩
  .cases h
  .have h:((decide (c<32)&&c != 9)||c==127)=true:=h;simp only[Bool.or_eq_true,fG,decide_eq_true_eq,bne_iff_ne,beq_iff_eq] at h;refine⟨?_,?_⟩
   .rcases h with⟨D,H⟩|rfl
    .exact .inl ⟨c,List.mem_range'_1.mpr ⟨eb ..,D⟩,rfl⟩
    .exact .inr ⟨127,by simp,rfl⟩
   .rintro ⟨d,G,e⟩
    obtain rfl:d=9:=by simpa using G
    have e:=congrArg (λ x:Str=>x.cps.toList) e;have e:[c]=[9]:=e;have:c=9:=by simpa using e
    lia
  .cases h
theorem UA (b:Bool)(C:Nat->Obj)(B:Nat->SZ)(Yb:wE pp (Wb b w) (B 38).1 (B 38).2.2 (λ k=>eC (j9 0 32) k||eC [127] k) 33):∃X Z,EQ pp (Wb b w) (zO (Z 43)) ct /\
  Goes pp (Wb b w) (S2 C B (Wb b w).params os).abs (at_ (sA 3::rest) ⟨5,0,5,10⟩) (S3 X Z (Wb b w).params os).abs (at_ rest ⟨6,0,6,23⟩):=by
 apply bd;intro J;obtain⟨g,E⟩:x02:=(yX b w os rest C B C B cE default C B cE default).1;obtain(⟨G,D,O,M,Q,T⟩):=ui (w:=Wb b w) (SA:=A3 C B (Wb b w).params os) (a:=39) (it:=40) (L:=jF (Wb b w).params) (ks:=[(38,zO (B 38))]) (TB:=λ X z=>(B3 X (λ i=>if i=39 then z else B i) (Wb b w).params os).tree) (pos:=⟨6,39,6,54⟩) E (PZ _ _ _ _) (Qo _ _ _ _) (Vj _ _ _ _)
  (λ p H=>by obtain rfl:=aO.mp H;exact⟨UT _ _ _ _,(by decide:¬((38:Nat)∈([39,40]:List Nat)))⟩) (by decide) (by decide) (by decide) (by decide) (by decide) (by show 41+2<=62;decide) (λ X z=>Pw _ _ _ _)
 obtain⟨q2,f⟩:x02:=(yX b w os rest C B G (λ i=>if i=39 then D else B i) O M C B cE default).2.1;obtain⟨N,R,d,A,I,s9⟩:x42:=Xg (p:=pp) (w:=Wb b w) (SA:=B3 G (λ i=>if i=39 then D else B i) (Wb b w).params os) (a:=38) (b:=39) (z:=B 38) (zo:=D) (n:=33) (L:=jF (Wb b w).params) (ks:=[]) (TB:=λ X z=>(G3 X (λ _=>z) (Wb b w).params os).tree) (pos:=⟨6,26,6,54⟩) f (Vz _ _ _ _) (YS _ _ _ _) (P7 _ _ _ _) Yb Q (by decide)
  (λ p H=>by cases H) (by decide) (by decide) (λ k Y=>by
   apply bd;intro J;obtain⟨c,V,rfl⟩:=kL.mp Y;apply J;obtain rfl:c=9:=by simpa using V
   decide) (by show 22<=43;decide) (by show 43+1<=62;decide) (λ X z=>Od _ _ _ _)
 apply J;have U:=(yX b w os rest C B G (λ i=>if i=39 then D else B i) O M N (λ _=>R) d A).2.2;refine⟨N,λ _=>R,?_,(jE g).trans (T.trans ((jE q2).trans (s9.trans (iK U))))⟩;have e:(λ k=>(eC (j9 0 32) k||eC [127] k) && !eC [9] k)=ct:=funext Y3;exact e▸I
theorem Mu (b:Bool)(C:Nat->Obj)(B:Nat->SZ):∃X Z,Z 43=B 43/\wE pp (Wb b w) (Z 44).1 (Z 44).2.2 (eC [32,9]) 2 /\
  Goes pp (Wb b w) (S3 C B (Wb b w).params os).abs (at_ (sA 4::sA 5::sA 6::rest) ⟨6,0,6,23⟩) (S6 X Z (Wb b w).params os).abs (at_ rest ⟨9,0,9,7⟩):=by
 apply bd;intro R;obtain⟨U,T⟩:x02:=(D4 b w os rest C B C B cE default).1;obtain(⟨G,D,O,J,M,H⟩):=ui (w:=Wb b w) (SA:=A6 C B (Wb b w).params os) (a:=44) (it:=45) (L:=rX (Wb b w).params) (ks:=[(43,zO (B 43))]) (TB:=λ X z=>(B6 X (λ i=>if i=44 then z else B i) (Wb b w).params os).tree) (pos:=⟨9,10,9,26⟩) T (XE _ _ _ _) (Y4 _ _ _ _) (RS _ _ _ _)
  (λ p N=>by obtain rfl:=aO.mp N;exact⟨Rh _ _ _ _,(by decide:¬((43:Nat)∈([44,45]:List Nat)))⟩) (by decide) (by decide) (by decide) (by decide) (by decide) (by show 46+2<=62;decide) (λ X z=>RB _ _ _ _)
 apply R;have q2:=(D4 b w os rest C B G (λ i=>if i=44 then D else B i) O J).2;exact⟨G,λ i=>if i=44 then D else B i,rfl,M,(jE U).trans (H.trans (iK q2))⟩
theorem QT:∀k,(eC [32,9] k||eC [10] k)=On k:=by
 intro k;rw[(iE),Bool.or_eq_true,(kL),(kL)];unfold On
 simp[or_assoc]
theorem Xj (b:Bool)(C:Nat->Obj)(B:Nat->SZ)(WR:wE pp (Wb b w) (B 44).1 (B 44).2.2 (eC [32,9]) 2):∃X Z,Z 43=B 43/\EQ pp (Wb b w) (zO (Z 52)) On /\
  Goes pp (Wb b w) (S6 C B (Wb b w).params os).abs (at_ (sA 7::rest) ⟨9,0,9,7⟩) (S7 X Z (Wb b w).params os).abs (at_ rest ⟨10,0,10,19⟩):=by
 apply bd;intro H;obtain⟨g,f⟩:x02:=(Bo b w os rest C B C B cE default C B cE default).1;obtain(⟨J,D,O,N,A,T⟩):=ui (w:=Wb b w) (SA:=A7 C B (Wb b w).params os) (a:=48) (it:=49) (L:=jw (Wb b w).params) (ks:=[(44,zO (B 44)),(43,zO (B 43))]) (TB:=λ X z=>(B7 X (λ i=>if i=48 then z else B i) (Wb b w).params os).tree) (pos:=⟨10,32,10,47⟩) f (Xx _ _ _ _) (Ua _ _ _ _) (Mp _ _ _ _)
  (λ p G=>by
   simp only[aG,e7,or_false] at G
   rcases G with rfl|rfl
   .exact⟨Qb _ _ _ _,(by decide:¬((44:Nat)∈([48,49]:List Nat)))⟩
   .exact⟨NK _ _ _ _,(by decide:¬((43:Nat)∈([48,49]:List Nat)))⟩) (by decide) (by decide) (by decide) (by decide) (by decide) (by show 50+2<=62;decide) (λ X z=>YM _ _ _ _)
 obtain⟨q2,I⟩:x02:=(Bo b w os rest C B J (λ i=>if i=48 then D else B i) O N C B cE default).2.1;obtain⟨M,R,V,Y,d,s9⟩:x42:=Gm (p:=pp) (w:=Wb b w) (SA:=B7 J (λ i=>if i=48 then D else B i) (Wb b w).params os) (a:=44) (b:=48) (z:=B 44) (zo:=D) (n:=2) (L:=jw (Wb b w).params) (ks:=[(43,zO (B 43))]) (TB:=λ X z=>(G7 X (λ i=>if i=52 then z else B i) (Wb b w).params os).tree) (pos:=⟨10,22,10,47⟩) I (XG _ _ _ _) (Vf _ _ _ _) (VD _ _ _ _) WR A (by decide)
  (λ p G=>by obtain rfl:=aO.mp G;exact Sz _ _ _ _) (by decide) (by decide) (by decide) (by decide) (λ k Q=>by
   apply bd;intro H;obtain⟨c,E,rfl⟩:=kL.mp Q;apply H;obtain rfl:c=10:=by simpa using E
   decide) (by show 22<=52;decide) (by show 52+1<=62;decide) (λ X z=>Vd _ _ _ _)
 apply H;have U:=(Bo b w os rest C B J (λ i=>if i=48 then D else B i) O N M (λ i=>if i=52 then R else B i) V Y).2.2;exact⟨M,λ i=>if i=52 then R else B i,rfl,d.obj QT,(jE g).trans (T.trans ((jE q2).trans (s9.trans (iK U))))⟩
theorem YL:∀k,eC ("0123456789abcdefABCDEF" : Str).cps.toList k=fg k:=by
 intro k;have e:("0123456789abcdefABCDEF" : Str).cps.toList=XL:=by decide
 rw[e,(iE),(kL)];unfold fg
 constructor
 .rintro ⟨c,B,rfl⟩
  exact List.contains_iff_mem.mpr B
 .intro h;obtain⟨⟨l⟩⟩:=k
  rcases l with _|⟨c,_|⟨d,l⟩⟩
  .cases h
  .exact⟨c,List.contains_iff_mem.mp h,rfl⟩
  .cases h
theorem Mg (b:Bool)(C:Nat->Obj)(B:Nat->SZ):∃X Z,Z 43=B 43/\Z 52=B 52/\EQ pp (Wb b w) (zO (Z 53)) fg /\
  Goes pp (Wb b w) (S7 C B (Wb b w).params os).abs (at_ (sA 8::sA 9::sA 10::rest) ⟨10,0,10,19⟩) (BR X Z (Wb b w).params os).abs (at_ rest ⟨13,0,13,14⟩):=by
 apply bd;intro R;obtain⟨U,T⟩:x02:=(Ft b w os rest C B C B cE default).1;have JG:("0123456789abcdefABCDEF" : Str).cps.size=22:=by decide
 obtain(⟨J,G,O,M,N,D⟩):=ui (w:=Wb b w) (SA:=g9 C B (Wb b w).params os) (a:=53) (it:=54) (L:=sr (Wb b w).params) (ks:=[(52,zO (B 52)),(43,zO (B 43))]) (TB:=λ X z=>(Ax X (λ i=>if i=53 then z else B i) (Wb b w).params os).tree) (pos:=⟨13,17,13,37⟩) T (OL _ _ _ _) (Me _ _ _ _) (WW _ _ _ _)
  (λ p H=>by
   simp only[aG,e7,or_false] at H
   rcases H with rfl|rfl
   .exact⟨QY _ _ _ _,(by decide:¬((52:Nat)∈([53,54]:List Nat)))⟩
   .exact⟨RQ _ _ _ _,(by decide:¬((43:Nat)∈([53,54]:List Nat)))⟩) (by decide) (by decide) (by decide) (by rw[JG];decide) (by decide) (by show 55+2<=62;decide) (λ X z=>U3 _ _ _ _)
 apply R;have q2:=(Ft b w os rest C B J (λ i=>if i=53 then G else B i) O M).2;refine⟨J,λ i=>if i=53 then G else B i,rfl,rfl,N.obj YL,(jE U).trans ?_⟩;rw[JG] at D;exact D.trans (iK q2)
end
theorem Rf (b:Bool)(os:au):∃X Z,EQ pp (Wb b w) (zO (Z 43)) ct/\EQ pp (Wb b w) (zO (Z 52)) On/\EQ pp (Wb b w) (zO (Z 53)) fg /\
  Goes pp (Wb b w) (S0 (Wb b w).params os).abs (topStub pp) (pi X Z (Wb b w).params os).abs Bc:=by
 have G:Nat->Obj:=λ _=>default
 have D:Nat->SZ:=λ _=>default
 have R:=jE (Yc (Wb b w) os G D);rw[Xh] at R;have H:=iK (Nr (Wb b w) os G D);rw[Wf] at H;apply bd;intro o;obtain⟨q,m,f,N⟩:=YE (w:=w) (os:=os) (rest:=dA 3) b G D;rw[Zc] at N;obtain⟨I,Y,k,J⟩:=UA (w:=w) (os:=os) (rest:=dA 4) b q m f;rw[Nf] at J;obtain⟨V,g,T,E,L⟩:=Mu (w:=w) (os:=os) (rest:=dA 7) b I Y;rw[YF] at L;obtain⟨j,c,e4,p,O⟩:=Xj (w:=w) (os:=os) (rest:=dA 8) b V g E;rw[N4] at O;obtain⟨C,B,Q,d,U,M⟩:x24:=Mg (w:=w) (os:=os) (rest:=dA 11) b j c;apply o;rw[VG] at M;have A:=(iK (Uz (Wb b w) os _ C B)).trans ((iK (VQ (Wb b w) os _ C B)).trans ((iK (O4 (Wb b w) os [] C B)).trans (iK (Vt (Wb b w) os C B))));refine⟨C,B,?_,?_,U,R.trans (H.trans (N.trans (J.trans (L.trans (O.trans (M.trans A))))))⟩
 .rw[Q,e4,T];exact k
 .rw[d];exact p
theorem Oe (w:aA)(os:au):∃X Z,EQ pp w (zO (Z 43)) ct/\EQ pp w (zO (Z 52)) On/\EQ pp w (zO (Z 53)) fg /\
  Goes pp w (S0 w.params os).abs (topStub pp) (pi X Z w.params os).abs Bc:=by
 have:=Rf (w:=w) (w.params.followText "special-get-raises") os;unfold Wb at this;rw[World.withFollow_self] at this;exact this
theorem Ri (X:Nat->Obj)(Z:Nat->SZ)(P:aj)(os:au):staticsOk (importedModules pp.main.body) (S0 P os).abs.heap (pi X Z P os).abs.heap=true:=by kernel_rfl
theorem Mt (X:Nat->Obj)(Z:Nat->SZ)(P:aj)(os:au):namesBound pp (pi X Z P os).abs.heap=true:=by kernel_rfl
theorem VS (X:Nat->Obj)(Z:Nat->SZ)(P:aj)(os:au):laidKept (S0 P os).abs.heap (pi X Z P os).abs.heap=true:=by kernel_rfl
theorem Uy (X:Nat->Obj)(Z:Nat->SZ)(P:aj)(os:au):(pi X Z P os).abs.heap.accountedOkI (importedModules pp.main.body)=true:=by kernel_rfl
theorem xd (X:Nat->Obj)(Z:Nat->SZ)(P:aj)(os:au):(pi X Z P os).abs.heap.isNs cf=true/\(pi X Z P os).abs.heap.isNs iA=true:=⟨by kernel_rfl,by kernel_rfl⟩
theorem Y2 (X:Nat->Obj)(Z:Nat->SZ)(P:aj)(os:au):(pi X Z P os).abs.heap.bltView=bltViewBooted:=by kernel_rfl
noncomputable abbrev Os:Addr:=113
noncomputable def B4 (o:Obj):aU:=match o.data with | .func fd=>fd|_=>default
noncomputable section
noncomputable def vB (P:aj)(a:Addr):Obj:=((pi (λ _=>default) (λ _=>default) P default).tree.get a).getD default
noncomputable def qA (P:aj)(a:Addr):aU:=B4 (vB P a)
noncomputable def IU:List (Nat×Addr×Addr):=[(12,76,75),(13,83,82),(14,90,89),(15,97,96),(16,104,103),(17,111,110),(18,118,117),(19,125,124),(27,252,251),(48,292,291),(50,297,296),(51,302,301),(52,309,308),(53,314,313),(54,321,320),(55,328,327),(56,333,332),(57,338,337),(58,343,342)]
noncomputable def JO:List (Nat×Addr×Addr):=[(0,177,176),(1,184,183),(2,191,190),(3,196,195),(4,203,202),(5,210,209),(7,224,223),(8,231,230)]
noncomputable def oA (i:Nat):Addr:=((IU.lookup i).getD default).1
noncomputable def Q0 (i:Nat):Addr:=((IU.lookup i).getD default).2
noncomputable def jJ (i:Nat):Addr:=((JO.lookup i).getD default).1
noncomputable def Yy (i:Nat):Addr:=((JO.lookup i).getD default).2
def wU (P:aj)(i:Nat):aU:=qA P (oA i)
def Be (P:aj)(i:Nat):aU:=qA P (jJ i)
noncomputable def Xo (fd:aU):Obj:={cls:=.type "function",data:=.func fd}
noncomputable def IK (fd:aU):Value×FuncBody×List (Str×Addr)×Addr×Addr×Arguments×Scope×Value×Value×Bool×Bool×Bool:=(fd.code,fd.body,fd.closure,fd.globals,fd.builtins,fd.params,fd.scope,fd.defaults,fd.kwdefaults,fd.scope.kind==.function,fd.scope.isGenerator,fd.scope.isCoroutine)
noncomputable def iT (o:Obj):Array Value:=match o.data with | .fields vs=>vs|_=>#[]
noncomputable def Gz (v:Value):Tok:=match v with | .str _ t=>t|_=>0
noncomputable def cO (vs:Array Value):Obj:=⟨.type "code",none,.fields vs,#[]⟩
noncomputable def y5 (P:aj)(a:Addr):Array Value:=iT (vB P a)
def Kg (P:aj):Frag:=(j9 126 120).zip (LK P)
end
section
variable {X:Nat->Obj}{Z:Nat->SZ}{P:aj}{os:au}
theorem cS {i:Nat}{o:Obj}(D:∀a o,a≠Os->(pi X Z P os).abs.heap.get? a=some o->V a=some o)(h:(pi X Z P os).tree.get i=some o:=by kernel_rfl)(C:rY o=true:=by kernel_rfl)(hi:i<344:=by decide)(B:i≠Os:=by decide):V i=some o:=D _ _ B (Pv (S:=pi X Z P os) h hi C)
theorem Jw (D:∀a o,a≠Os->(pi X Z P os).abs.heap.get? a=some o->V a=some o){l:List (aC×Addr×Addr)}(I:l.map (λ p=>(pi X Z P os).tree.get p.2.1)=l.map λ p=>some (Xo (qA P p.2.1)))
  (c:l.map (λ p=>IK (qA P p.2.1))=l.map λ p=>(.ref p.2.2,.stmts (ay p.1),[],cf,iA,iO p.1,ax p.1,.none,.none,true,false,false))
  (Q:l.map (λ p=>(pi X Z P os).tree.get p.2.2)=l.map λ p=>some (cO (y5 P p.2.2))) (G:l.map (λ p=>(y5 P p.2.2)[1]?)=l.map λ p=>some (.str (qA P p.2.1).qualname (Gz ((y5 P p.2.2).getD 1 .none)))) (T:(l.all λ p=>dI p.2.1 344&&dI p.2.2 344&&dI 0 (p.2.1 - Os+(Os - p.2.1))&&dI 0 (p.2.2 - Os+(Os - p.2.2)))=true):∀p∈l,Ps V p.1 p.2.1 (qA P p.2.1):=by
 intro p B;have e1:=jr.mp I p B;have e2:=jr.mp c p B;have H:=jr.mp Q p B;have e4:=j6.mp T p B;simp only[fG] at e4;have N:=jr.mp G p B;apply bd;intro E;simp only[IK,Prod.mk.injEq] at e2;obtain⟨d,q2,L,q4,O,U,A,Y,q9,M,J,R⟩:x04040403:=e2;apply E;have C:∀{a:Nat},dI 0 (a - Os+(Os - a))=true->a≠Os:=λ h e=>by subst e;rw[Nat.sub_self] at h;cases h
 exact⟨⟨⟨_,cS D e1 rfl (eE e4.1.1.1) (C e4.1.2),rfl⟩,⟨_,_,_,_,d,cS D H rfl (eE e4.1.1.2) (C e4.2),rfl,N⟩,q2,L,q4,O,eq_of_beq M,J,R⟩,U,A,Y,q9⟩
theorem Jg (C:∀a o,a≠Os->(pi X Z P os).abs.heap.get? a=some o->V a=some o):∀i∈mF,Ps V (sA i) (oA i) (wU P i)/\(pi X Z P os).abs.heap.nsMap cf (kz (sA i))=some (.ref (oA i)):=λ i B=>
 ⟨Jw C (l:=mF.map λ i=>(sA i,oA i,Q0 i)) (by kernel_rfl) (by kernel_rfl) (by kernel_rfl) (by kernel_rfl) (by kernel_rfl) _ (aI.mpr ⟨i,B,rfl⟩),jr.mp (show mF.map (λ i=>(pi X Z P os).abs.heap.nsMap cf (kz (sA i)))=mF.map λ i=>some (.ref (oA i)) by kernel_rfl) i B⟩
theorem NG (C:∀a o,a≠Os->(pi X Z P os).abs.heap.get? a=some o->V a=some o):∀i∈[1,2,3,4,5,7,8],Ps V (WP i) (jJ i) (Be P i)/\findIn (Kg P) (.ref 241) (kz (WP i))=some (some (.ref (jJ i)))/\typeIn (Kg P) (.ref (jJ i))=some (.type "function"):=λ i B=>
 ⟨Jw C (l:=[1,2,3,4,5,7,8].map λ i=>(WP i,jJ i,Yy i)) (by kernel_rfl) (by kernel_rfl) (by kernel_rfl) (by kernel_rfl) (by kernel_rfl) _ (aI.mpr ⟨i,B,rfl⟩),jr.mp (show [1,2,3,4,5,7,8].map (λ i=>findIn (Kg P) (.ref 241) (kz (WP i)))=[1,2,3,4,5,7,8].map λ i=>some (some (.ref (jJ i))) by kernel_rfl) i B,jr.mp (show [1,2,3,4,5,7,8].map (λ i=>typeIn (Kg P) (.ref (jJ i)))=[1,2,3,4,5,7,8].map λ i=>some (.type "function") by kernel_rfl) i B⟩
noncomputable def O8:List (Addr×List Addr):=[(260,[253,254,255,256,257,258,259]),(262,[261]),(264,[263]),(268,[265,266,267]),(270,[269]),(272,[271]),(276,[273,274,275]),(278,[277]),(280,[279]),(284,[281,282,283])]
noncomputable def oG:List (Addr×List (Addr×Int×Str)):=(O8.zip gG).map λ p=>(p.1.1,p.1.2.zip p.2)
noncomputable def yV (l:List Value):Obj:=⟨.type "tuple",none,.seq l.toArray 0,#[]⟩
noncomputable def WN (v:Value):Tok:=match v with | .int _ t=>t|_=>0
noncomputable def HJ (o:Obj):List Value:=match o.data with | .seq l _=>l.toList|_=>[]
noncomputable def RW (P:aj)(p:Addr×Int×Str):Obj:=yV [.int p.2.1 (WN ((HJ (vB P p.1)).getD 0 .none)),.str p.2.2 (Gz ((HJ (vB P p.1)).getD 1 .none))]
theorem vz {α:Type}{f:α->PV}{g:α->Addr}:∀{l:List α},(∀p∈l,ce V [] (f p) (.ref (g p)))->lm V [] (l.map f) (l.map λ p=>.ref (g p))
 | [],_=>.nil
 |p::l,h=>.cons (h p (aN ..)) (vz λ q B=>h q (aT _ B))
theorem T4 (C:∀a o,a≠Os->(pi X Z P os).abs.heap.get? a=some o->V a=some o):ce V [] y7 (.ref 285):=by
 have H:(oG.flatMap (·.2)).map (λ p=>(pi X Z P os).tree.get p.1)=(oG.flatMap (·.2)).map λ p=>some (RW P p):=by kernel_rfl
 have J:oG.map (λ r=>(pi X Z P os).tree.get r.1)=oG.map λ r=>some (yV (r.2.map λ p=>.ref p.1)):=by kernel_rfl
 have G:(oG.all λ r=>dI Os r.1&&dI r.1 344&&r.2.all λ p=>dI Os p.1&&dI p.1 344)=true:=by kernel_rfl
 have L:ce V [] (.tup (oG.map λ r=>.tup (r.2.map λ p=>.tup [.int p.2.1,.str p.2.2]))) (.ref 285):=by
  refine .tup (cS C (o:=yV (oG.map λ r=>.ref r.1)) (by kernel_rfl) (by kernel_rfl) (by decide)) (vz (g:=Prod.fst) λ r B=>?_);have a:=j6.mp G r B;rw[fG,fG] at a;refine .tup (cS C (jr.mp J r B) rfl (eE a.1.2) (eF (eE a.1.1))) (vz (g:=Prod.fst) λ p D=>?_);have b:=j6.mp a.2 p D;rw[fG] at b;exact .tup (cS C (jr.mp H p (List.mem_flatMap.mpr ⟨r,B,D⟩)) rfl (eE b.2) (eF (eE b.1))) (.cons (.int _ _) (.cons (.str _ _) .nil))
 exact L
theorem Rc:∀p∈th,(pi X Z P os).abs.heap.nsMap cf p.1=none/\(pi X Z P os).abs.heap.nsMap iA p.1=some p.2:=by
 have h:th.map (λ p=>((pi X Z P os).abs.heap.nsMap cf p.1,(pi X Z P os).abs.heap.nsMap iA p.1))=th.map λ p=>(none,some p.2):=by kernel_rfl
 intro p B;have:=jr.mp h p B;exact⟨congrArg Prod.fst this,congrArg Prod.snd this⟩
theorem PR:∀p∈xk,∃t,(pi X Z P os).abs.heap.nsMap cf p.1=some (.int p.2 t):=by
 intro p B;simp only[xk,aG,e7,or_false] at B
 rcases B with rfl|rfl|rfl|rfl|rfl|rfl
 .exact⟨699,by kernel_rfl⟩
 .exact⟨693,by kernel_rfl⟩
 .exact⟨703,by kernel_rfl⟩
 .exact⟨705,by kernel_rfl⟩
 .exact⟨505,by kernel_rfl⟩
 .exact⟨508,by kernel_rfl⟩
theorem Vp (G:∀a o,a≠Os->(pi X Z P os).abs.heap.get? a=some o->V a=some o):cB V:=by
 refine⟨_,cS G (i:=1) (o:=boot_o_1 P) (by kernel_rfl) (by kernel_rfl) (by decide),λ C n h e B=>?_⟩;have H:(boot_o_1 P).data = .dict #[⟨nG P ("builtins" : Str),.str "builtins" 162,.ref 4⟩,⟨nG P ("__main__" : Str),.str "__main__" 163,.ref 5⟩] 2:=by kernel_rfl
 rw[H] at h
 injection h with D J
 subst D;simp only[aG,e7,or_false] at B
 rcases B with rfl|rfl<;>exact⟨_,_,rfl⟩
theorem YT (B:∀a o,a≠Os->(pi X Z P os).abs.heap.get? a=some o->V a=some o):cu V ((pi X Z P os).abs.heap.nsMap cf) ((pi X Z P os).abs.heap.nsMap iA):=λ h C=>⟨(Heap.Ns.of_isNs (xd X Z P os).1).at' λ o e=>C _ _ (B _ _ (by decide) e),(Heap.Ns.of_isNs (xd X Z P os).2).at' λ o e=>C _ _ (B _ _ (by decide) e),⟨_,(Heap.Ns.of_isNs (h:=(pi X Z P os).abs.heap) (a:=cStatics) (by kernel_rfl)).at' λ o e=>C _ _ (B _ _ (by decide) e),by kernel_rfl⟩⟩
theorem MZ (J:∀a o,a≠Os->(pi X Z P os).abs.heap.get? a=some o->V a=some o):lp V (Kg P):=by
 have H:(Kg P).map (λ p=>(pi X Z P os).tree.get p.1)=(Kg P).map λ p=>some p.2:=by kernel_rfl
 have M:(Kg P).all (λ p=>rY p.2&&dI p.1 344)=true:=by kernel_rfl
 have D:(Kg P).all (λ p=>dI 113 p.1)=true:=by kernel_rfl
 intro a o e;obtain⟨N,O,L,_⟩:=List.lookup_eq_some_iff.mp e;have B:(a,o)∈Kg P:=by rw[L];simp
 have G:=jr.mp H _ B;have C:=j6.mp M _ B;rw[fG] at C;exact cS J G C.1 (eE C.2) (eF (eE (j6.mp D _ B)))
theorem V4:kI (Kg P) 241:=⟨by kernel_rfl,by kernel_rfl,by kernel_rfl,by kernel_rfl⟩
theorem OJ:kI (Kg P) 144:=⟨by kernel_rfl,by kernel_rfl,by kernel_rfl,by kernel_rfl⟩
theorem WQ:∀n∈(["_node2info","_ready_nodes","_npassedout","_nfinished"]:List Str),findIn (Kg P) (.ref 241) n=some none:=by
 intro n B;simp only[aG,e7,or_false] at B
 rcases B with rfl|rfl|rfl|rfl<;>kernel_rfl
theorem YR (B:∀a o,a≠Os->(pi X Z P os).abs.heap.get? a=some o->V a=some o):GD V (WP 0) (jJ 0) (Be P 0):=by
 have VI:V 170=some Fp:=cS B;have OA:V 176=some Hn:=cS B;have UJ:V 177=some Em:=cS B;exact⟨⟨⟨_,UJ,rfl⟩,⟨_,_,_,_,rfl,OA,rfl,rfl⟩,rfl,rfl,rfl,rfl,by kernel_rfl,by kernel_rfl,by kernel_rfl⟩,rfl,rfl,⟨_,_,rfl,VI⟩,rfl⟩
theorem Tp (B:∀a o,a≠Os->(pi X Z P os).abs.heap.get? a=some o->V a=some o):Ps V JW 140 (B4 xC):=by
 have TY:V 139=some Hg:=cS B;have TM:V 140=some xC:=cS B;exact⟨⟨⟨_,TM,rfl⟩,⟨_,_,_,_,rfl,TY,rfl,rfl⟩,rfl,rfl,rfl,rfl,by kernel_rfl,by kernel_rfl,by kernel_rfl⟩,rfl,rfl,rfl,rfl⟩
theorem Sm:tY (Kg P) 241 (jJ 0):=⟨by kernel_rfl,by kernel_rfl,by kernel_rfl,by kernel_rfl⟩
theorem MS:tY (Kg P) 144 140:=⟨by kernel_rfl,by kernel_rfl,by kernel_rfl,by kernel_rfl⟩
theorem T9:mR (Kg P) 144 "node" 145 0:=⟨by kernel_rfl,by kernel_rfl,by kernel_rfl,by kernel_rfl,by kernel_rfl,by decide⟩
theorem TN:mR (Kg P) 144 "npredecessors" 146 1:=⟨by kernel_rfl,by kernel_rfl,by kernel_rfl,by kernel_rfl,by kernel_rfl,by decide⟩
theorem Ru:mR (Kg P) 144 "successors" 147 2:=⟨by kernel_rfl,by kernel_rfl,by kernel_rfl,by kernel_rfl,by kernel_rfl,by decide⟩
theorem MG (B:∀a o,a≠Os->(pi X Z P os).abs.heap.get? a=some o->V a=some o):gX V ((pi X Z P os).abs.heap.nsMap cf) "CycleError" 159:=by
 have adF:V 158=some (Er P):=cS B;have NS:V 159=some JA:=cS B;have D:(pi X Z P os).abs.heap.Ns 158 _:=.of_isNs (by kernel_rfl);exact⟨by kernel_rfl,_,158,_,_,_,_,_,_,_,_,_,_,_,_,_,_,_,by kernel_rfl,λ h C=>⟨C _ _ NS,D.at' (λ o e=>C _ _ (B _ _ (by decide) e)),.base⟩⟩
theorem Y6 (B:∀a o,a≠Os->(pi X Z P os).abs.heap.get? a=some o->V a=some o):gX V ((pi X Z P os).abs.heap.nsMap cf) "TOMLDecodeError" 66:=by
 have G:V 65=some (Jx P):=cS B;have Te:V 66=some Fx:=cS B;have D:(pi X Z P os).abs.heap.Ns 65 _:=.of_isNs (by kernel_rfl);exact⟨by kernel_rfl,_,65,_,_,_,_,_,_,_,_,_,_,_,_,_,_,_,by kernel_rfl,λ h C=>⟨C _ _ Te,D.at' (λ o e=>C _ _ (B _ _ (by decide) e)),.base⟩⟩
theorem Qp (B:∀a o,a≠Os->(pi X Z P os).abs.heap.get? a=some o->V a=some o):Bg V ((pi X Z P os).abs.heap.nsMap cf) (wU P 18).code 117 Os:=by
 have D:V 4=some (boot_o_4 P):=cS B;have Oc:V 117=some yY:=cS B;exact⟨by kernel_rfl,λ h C=>⟨⟨_,_,_,_,_,_,_,_,_,C _ _ Oc,rfl,rfl,rfl,rfl,rfl,rfl,rfl,rfl,by decide⟩,⟨4,_,by kernel_rfl,by decide,by decide,by decide,C _ _ D,rfl,rfl,rfl⟩⟩,by decide⟩
noncomputable def Oo {w:aA}(hI:∀a o,a≠Os->(pi X Z P os).abs.heap.get? a=some o->V a=some o)(sp:EQ pp w (zO (Z 43)) ct)(rZ:EQ pp w (zO (Z 52)) On)(ue:EQ pp w (zO (Z 53)) fg):
  i0 w V ((pi X Z P os).abs.heap.nsMap cf) ((pi X Z P os).abs.heap.nsMap iA) where
 T:=YT hI
 fn:=oA
 fd:=wU P
 defs:=Jg hI
 fT:=Rc
 wI:=PR
 ws:=52
 uB:=zO (Z 52)
 wB:=by kernel_rfl
 v8:=cS hI
 vS:=rZ
 ill:=43
 um:=zO (Z 43)
 sm:=by kernel_rfl
 sv:=by kernel_rfl
 oj:=cS hI
 og:=sp
 hex:=53
 tV:=zO (Z 53)
 qd:=by kernel_rfl
 kj:=cS hI
 kT:=ue
 mods:=Vp hI
 bX:=66
 iP:=Y6 hI
 vZ:=117
 ou:=Os
 qE:=Qp hI
 K:=Kg P
 Rs:=MZ hI
 TS:=241
 NI:=144
 CE:=159
 FU:=by kernel_rfl
 HA:=by kernel_rfl
 wV:=MG hI
 jP:=V4
 dp:=OJ
 kB:=by kernel_rfl
 io:=jJ
 un:=Be P
 meths:=NG hI
 Eg:=YR hI
 Fj:=Sm
 xh:=140
 Jd:=B4 xC
 G8:=Tp hI
 GL:=MS
 iT:=WQ
 p0:=145
 p1:=146
 p2:=147
 s0:=T9
 s1:=TN
 s2:=Ru
 tab:=285
 EZ:=by kernel_rfl
 Jm:=T4 hI
end
noncomputable def fX (h:Heap)(P:Addr):Im:=λ a=>if Nat.beq a P then none else h.get? a
theorem y0 {h:Heap}{P a:Addr}{o:Obj}(B:a≠P)(e:h.get? a=some o):fX h P a=some o:=by
 unfold fX;rw[if_neg (λ q=>B (Nat.eq_of_beq_eq_true q))];exact e
theorem qx {h:Heap}{P a:Addr}{o:Obj}(e:fX h P a=some o):a≠P/\h.get? a=some o:=by
 unfold fX at e
 split at e
 .cases e
 .rename_i B
  exact⟨λ q=>B (by rw[q];exact Nat.beq_refl P),e⟩
theorem Xp {h:Heap}{P:Addr}:fX h P P=none:=if_pos (Nat.beq_refl P)
theorem Y1 {sc:List Int}{s:ae}{v:Value}{P:Addr}(G:i0 w (fX s.heap P) mg mb)(hP:G.ou=P)(U:s.heap.get? P=some (tabObj #[]))(m:sc.length<=63)(d:s.gens = #[])(M:ce (λ a=>s.heap.get? a) [] (.lst (sc.map .int)) v)
  {Q:Value->ae->Prop}{E:Value->ae->Prop} (q:∀s',(∀b o,b≠P->s.heap.get? b=some o->s'.heap.get? b=some o)->(∃Z,s'.heap.get? P=some (tabObj Z))->s'.os=s.os->s'.gens = #[]->Q (.bool true) s'):
  ag (af pp w) callerA (call (.ref (G.fn 58)) [v]) Q E s:=by
 have D:=G.d 58;have j:P<s.heap.objs.size:=bP U;have M:ce (fX s.heap P) [[P]] (.lst (sc.map .int)) v:=by
  refine(ce.g8 (k:=0) (λ a o e P0=>?_) (λ n r h=>absurd h (Nat.not_lt_zero n))).1 M (ce.pW.1 M);refine y0 (λ q=>?_) e;subst q;obtain rfl:=Option.some.inj (U.symm.trans e)
  rcases P0 with q|q|q|q<;>cases q
 have H:=λ{A L fs}=>MT (sc:=sc) (ph:=[.tab P AL (xm (G.fd 18))]) (A:=A) (L:=L) (fs:=fs) G ?_ m
 apply bd;intro T;obtain⟨o,ho,hd⟩:=D.fn.at_;apply T;refine wpAny_call ?_;refine codeAny_call_function (o:=o) (fd:=G.fd 58) (body:=ay (sA 58)) (by show 1+claimMargin<recursionLimit;decide +kernel) (qx ho).2 hd D.fn.co D.fn.gen D.fn.body ?_ ?_
 .obtain⟨c,oc,vs,t,e1,e2,e3⟩:x4202:=D.fn.code;exact ⟨c,oc,vs,t,e1,(qx e2).2,e3⟩
 .have I:∀J:aU,J.params=iO (sA 58)->J.defaults = .none->J.kwdefaults = .none->bindArgs J (⟨[v],[]⟩:Args)=(aq [(("script" : Str),v)]:Sem (List (Str×Value))):=by
   intro J h1 N h3;obtain⟨⟩:=J;cases h1;cases N;cases h3;rfl
  have hb:=I _ D.params D.dflt D.oU;rw[hb];refine ah ?_;rw[D.fn.closure];refine wpAny_newFunctionEnv_cells D.fn.kind (λ x B=>D.locals (xs:=["script"]) (by decide) _ x.1 (by rw[aO.mp B];exact aO.mpr rfl)) λ e V s2 X=>?_
  subst V;apply bd;intro T;obtain⟨N,XQ,rfl⟩:x21:=X.toInCall.same;apply T;have Y:∀b o,s.heap.get? b=some o->N.get? b=some o:=X.toInCall.keep;refine⟨(G.T _ λ a o e=>Y _ _ (qx e).2).2.2,codeAny_func ?_⟩;have O:∀a,s.heap.objs.size<=a->fX s.heap P a=none:=λ a R=>by
   cases e:fX s.heap P a with
   |none=>rfl
   |some ob=>exact absurd (bP (qx e).2) (Nat.not_lt.mpr R)
  have GK:∀a,s.heap.objs.size<=a->a∉([[P]]:wl).flatten:=λ a R h=>by
   obtain rfl:=aO.mp (show a∈[P] from h);exact absurd j (Nat.not_lt.mpr R)
  have F2:IO (callEnvC (G.fd 58) s.heap.objs.size (G.fn 58)) [("script",PV.lst (sc.map .int))] (fX s.heap P) [[P]] N:=by
   refine⟨⟨_,X.toInCall.ns,λ x u e C=>?_⟩,λ x c e=>⟨_,X.cell x c e,λ u e' C=>?_⟩,⟨O _ (aJ _),GK _ (aJ _)⟩,λ x c e=>?_,λ x y c e1 e2=>PySem.name_of_addr X.apart (pb e1) (pb e2)⟩
   .rw[cK] at e
    cases B:x==("script" : Str) with
    |false=>rw[B] at e;cases e
    |true=>
     rw[B] at e;cases e;obtain rfl:=beq_iff_eq.mp B;exact⟨v,JU (by simp) rfl C,M⟩
   .rw[cK] at e'
    cases B:x==("script" : Str) with
    |false=>rw[B] at e';cases e'
    |true=>
     obtain rfl:=beq_iff_eq.mp B;have z:(callEnvC (G.fd 58) s.heap.objs.size (G.fn 58)).kindOf "script"=some .local:=D.kind rfl;rw[z] at C
     rcases C with C|C<;>cases C
   .have f:s.heap.objs.size<c:=X.above x c (pb e);exact⟨λ _=>O c (dq f),GK c (dq f),eF f⟩
  have iv:Do pp w (fX s.heap P) [[P]] [.tab P AL (xm (G.fd 18))] N:=by
   refine⟨λ a o e=>Y _ _ (qx e).2,rfl,λ n o as e1 e2=>?_,c8.mpr ⟨e7,List.nodup_nil⟩,λ a R=>?_⟩
   .cases n with
    |zero=>
     obtain rfl:=Option.some.inj e1;obtain rfl:=Option.some.inj e2;exact⟨#[],rfl,Y _ _ U,trivial,.inl rfl⟩
    |succ n=>cases e1
   .obtain rfl:=aO.mp (show a∈[P] from R);exact⟨Xp,_,Y _ _ U⟩
  refine @H _ _ [] ⟨?_,?_,rfl⟩ ⟨⟨[],rfl,λ e V=>nomatch V⟩,rfl,?_⟩ (fX s.heap P) [[P]] _ _ _ ⟨iv,F2,d,.refl _,λ p hp=>(nomatch hp)⟩ ?_
  .show 1+claimMargin+1+7<recursionLimit;decide +kernel
  .show 4+3+100 * 7<cLine;decide +kernel
  .rw[show(callEnvC (G.fd 58) s.heap.objs.size (G.fn 58)).scope.kind = .function from D.fn.kind];decide
  .intro I3 ρ3 s3 g a3 b3 gL o3 d;apply bd;intro T;obtain⟨Z,_,zj,_⟩:x13:=gL.inv.obj 0 _ [P] rfl (b3 0 [P] rfl);apply T
   cases d with
   |ret M=>
    cases M;exact q s3 (λ b o hn e=>gL.inv.lw _ _ (a3 _ _ (y0 hn e))) ⟨Z,zj⟩ o3 gL.gens
 .exact⟨0,by rw[hP];rfl⟩
theorem WY (X:Nat->Obj)(Z:Nat->SZ)(P:aj)(os:au):([0,1,4,5,7,8,9,10]:List Addr).map (λ b=>(pi X Z P os).abs.heap.get? b)=([0,1,4,5,7,8,9,10]:List Addr).map (λ b=>(S0 P os).abs.heap.get? b):=by kernel_rfl
theorem OG (P:aj)(os:au):(S0 P os).abs.heap.isNs cf=true/\(S0 P os).abs.heap.nsMap cf "__annotations__"=some (.ref 6)/\(S0 P os).abs.heap.objs.size=11:=⟨by kernel_rfl,by kernel_rfl,by kernel_rfl⟩
theorem EV (X:Nat->Obj)(Z:Nat->SZ)(P:aj)(os:au):(pi X Z P os).abs.heap.nsMap cf "__builtins__"=some (.ref 4)/\(pi X Z P os).abs.heap.get? 4=some (boot_o_4 P):=⟨by kernel_rfl,by kernel_rfl⟩
theorem N6:∀n:Nat,n<11->(n≠3/\n≠2/\n≠6)->n∈([0,1,4,5,7,8,9,10]:List Nat):=by decide
theorem TA (w:aA)(os:au):∃X Z,EQ pp w (zO (Z 43)) ct/\EQ pp w (zO (Z 52)) On/\EQ pp w (zO (Z 53)) fg/\TopRan pp w (S0 w.params os).abs (pi X Z w.params os).abs:=by
 apply bd;intro T;obtain⟨X,Z,R,Y,O,g⟩:x24:=Oe w os;apply T;have N:=xd X Z w.params os;have A:=OG w.params os;have G:(pi X Z w.params os).abs.gens = #[.finished]:=rfl;refine⟨X,Z,R,Y,O,g.sched ⟨rfl,rfl⟩ ?_ rfl rfl,g.life,Shared.rest_eq rfl,?_,Heap.accountedI_of_ok (Uy _ _ _ _),statics_of_ok (Ri _ _ _ _),Pin.keysAreStrs_of N.1,
  λ x B=>(Pin.builtinOf_eq N.2 x).trans (Heap.of_bltView N.2 (Y2 _ _ _ _) x B),?_,?_,names_of_bound (Mt _ _ _ _),laid_of_kept (VS _ _ _ _)⟩
 .intro x B;rw[G] at B;obtain rfl:=aO.mp (Array.mem_toList_iff.mpr B)
  rfl
 .intro b o H C;have D:b<11:=A.2.2▸bP H;have e:=jr.mp (WY X Z w.params os);have J:b≠3:=λ q=>C (.inl q)
  have U:b≠2:=λ q=>C (.inr (.inl q))
  have L:b≠6:=λ q=>C (.inr (.inr (by rw[q,(Pin.globalOf_eq A.1)];exact A.2.1)))
  have M:b∈([0,1,4,5,7,8,9,10]:List Addr):=N6 b D ⟨J,U,L⟩;exact(e b M).trans H
 .exact⟨4,_,(Pin.globalOf_eq N.1 _).trans (EV X Z w.params os).1,(EV X Z w.params os).2,rfl,rfl⟩
 .intro x B;rw[G] at B;obtain rfl:=aO.mp (Array.mem_toList_iff.mpr B)
  trivial
noncomputable abbrev lc:=PySem.Challenge.rw_oc0294_02.row
theorem Zo {P}{I:Im}{H:wl}:∀(ns:List Int) (s:ae) (r:List Value×ae),layAllW R cl P ord (ns.map .int) s=some r->lm I H (ns.map .int) r.1:=by
 intro C
 induction C with
 |nil=>
  intro s r h;simp only[List.map_nil,layAllW,Option.some.injEq] at h;subst h;exact .nil
 |cons n ns D=>
  intro s r h;rw[aL] at h;obtain⟨a,q,B,G,rfl⟩:=layAllW_cons h;simp only[layW,Option.some.injEq] at B;subst B;exact .cons (.int _ _) (D _ _ G)
theorem Va:∀ns:List Int,ofPys (ns.map PyData.int)=ns.map WData.int:=by
 intro B
 induction B with
 |nil=>
  exact rfl
 |cons n ns C=>
  show WData.int n::ofPys (ns.map PyData.int)=_;rw[C];rfl
theorem Tq {P}{ns:List Int}{s:ae}{vs:List Value}{s₁:ae}(h:layAllW [] cl P ord [.list (ns.map .int)] s=some (vs,s₁)):∃v,vs=[v]/\ce (λ a=>s₁.heap.get? a) [] (.lst (ns.map .int)) v:=by
 obtain⟨a,q,B,D,e⟩:=layAllW_cons h;simp only[layAllW,Option.some.injEq] at D;subst D;cases e;simp only[layW] at B
 cases C:layAllW [] cl P ord (ns.map .int) s with
 |none=>rw[C] at B;cases B
 |some r=>
  rw[C] at B;cases B;exact⟨_,rfl,.lst (cj _ rfl) (Zo ns s r C)⟩
theorem VL {P}{ns:List Int}{s:ae}{vs:List Value}{s₁:ae}(h:layAllW [] cl P ord [ofPy (PyData.list (ns.map PyData.int))] s=some (vs,s₁)):∃v,vs=[v]/\ce (λ a=>s₁.heap.get? a) [] (.lst (ns.map .int)) v:=by
 have e:ofPy (PyData.list (ns.map PyData.int)) = .list (ofPys (ns.map PyData.int)):=rfl;rw[e,Va] at h;exact Tq h
theorem Xs (w:aA){C s₁:ae}{B:List WData}{vs:List Value}{D:List Addr}(mB:lc.claim.pre B=true)(vC:WData.layableAll B=true)(my:layAllW lc.records (classAt C.heap) w.params ord B C=some (vs,s₁))
  (jB:ReadsAllW lc.records (classAt C.heap) s₁.heap vs B D) (tf:WellAll w.params s₁.heap vs B) (TV:∀a∈D,(a==sysModules)=false):
  ∃(sc:List Int) (v:Value),vs=[v]/\sc.length<=63/\ce (λ a=>s₁.heap.get? a) [] (.lst (sc.map .int)) v:=by
 wrow_args mB vC jB tf TV
 obtain⟨v,e,G⟩:=VL my;refine⟨_,v,e,?_,G⟩
 omega
theorem U5 (X:Nat->Obj)(Z:Nat->SZ)(P:aj)(os:au):isTheDefsW pp (pi X Z P os).abs.heap "law":=by
 obtain⟨D,B⟩:x02:=Jg (X:=X) (Z:=Z) (P:=P) (os:=os) (V:=λ a=>(pi X Z P os).abs.heap.get? a) (λ _ _ _ h=>h) 58 (by decide);obtain⟨o,G,C⟩:=D.fn.at_;exact⟨oA 58,o,wU P 58,iO (sA 58),ay (sA 58),ax (sA 58),(Pin.globalOf_eq (xd X Z P os).1 _).trans B,G,C,by kernel_rfl,by kernel_rfl,by kernel_rfl,D.params,D.fn.body,D.scope,D.fn.glob,D.fn.closure,D.fn.blt,
  .inl ⟨by kernel_rfl,D.dflt⟩,[],by kernel_rfl,.inl ⟨rfl,D.oU⟩⟩
theorem WU {w:aA}{V:Im}{B C:Str->Option Value}(G:i0 w V B C):B "law"=some (.ref (G.fn 58)):=G.g 58
theorem NO {C s₁ s':ae}{B:List WData}{vs:List Value}{H:List Addr}(Re:lc.claim.same=none)(Wy:lc.claim.within=[])(hi:∀a b,lc.claim.ident a b=true)
  (jB:ReadsAllW lc.claim.records (classAt C.heap) s₁.heap vs B H) (k:∀b o,s₁.heap.get? b=some o->asItWas s₁.heap s'.heap b o):lc.claim.Ends C B vs s₁ (.ok (.ret (.bool true))) s':=
 .inl ⟨.bool true,rfl,λ _=>rfl,⟨.bool true,B,[],H,.bool true,jB.keepsK λ b o e J=>(k b o e).kept J,(by wrow_post),λ _=>⟨List.nodup_nil,(λ a D=>absurd D e7),λ a D=>absurd D e7⟩,λ _ _=>hi _ _⟩,
  (λ i kD=>by rw[Re] at kD;cases kD),(λ b o G _ _=>k b o G),λ i kD=>by rw[Wy] at kD;cases kD⟩
theorem W7 {h h':Heap}{P:Addr}(D:h.get? P=some (tabObj #[]))(H:isCodeTable h P)(k:∀b o,b≠P->h.get? b=some o->h'.get? b=some o)(J:∃B,h'.get? P=some (tabObj B)):∀b o,h.get? b=some o->asItWas h h' b o:=λ b o e=>by
 apply bd;intro G;obtain⟨B,zj⟩:=J;apply G
 by_cases C:b=P
 .subst C;obtain rfl:=Option.some.inj (D.symm.trans e);exact .inr (.inl ⟨H,rfl,#[],B,rfl,by rw[zj,Array.empty_append]⟩)
 .exact .inl (k b o C e)
theorem ML (X:Nat->Obj)(Z:Nat->SZ)(P:aj)(os:au):(pi X Z P os).abs.heap.get? Os=some (tabObj #[])/\(pi X Z P os).abs.heap.get? 117=some yY:=
 ⟨Pv (S:=pi X Z P os) (by kernel_rfl) (by show 113<344;decide) (by kernel_rfl),Pv (S:=pi X Z P os) (by kernel_rfl) (by show 117<344;decide) (by kernel_rfl)⟩
theorem Q5 (w:aA):∃s B,AfterRun (opening pp) w s/\fenceModules? pp s=some B/\∃os,B=(S0 w.params os).abs:=by
 have h:=boot_open (p:=pp) (N:=600) (by kernel_rfl) (by decide) (λ s=>rfl) w;rw[<-table_eq_tree] at h;obtain⟨B,H,G⟩:=pA.mp h;obtain⟨s,D,C⟩:=Option.bind_eq_some_iff.mp H;refine⟨s,B,AfterImport.of_importEnds D,C,B.os,?_⟩;rw[Wk];obtain(⟨a,b,c,d,e⟩):=B;cases G
 rfl
theorem WG (w:aA)(os:au)(X:Nat->Obj)(Z:Nat->SZ)(sp:EQ pp w (zO (Z 43)) ct)(rZ:EQ pp w (zO (Z 52)) On)(ue:EQ pp w (zO (Z 53)) fg){M:Addr->Prop}{gens:Prop}{H:Heap->Prop}(j:∀h,H h):
  lc.claim.CallFrom (callStub lc.name) w M gens H (pi X Z w.params os).abs:=by
 apply bd;intro E;obtain⟨Re,hu,I,U,hm⟩:x0402:=frees_parts (r:=lc.toRowW) (by kernel_rfl);apply E;have hi:=ident_freeW hu I U;refine ClaimW.callFrom_of_specN (c:=lc.claim) (tree:=λ g=>do match <-nsGet mainNs lc.name with
   |some f=>do ret (<-PySem.call f g)
   |none=>unsupported "claim.caller:no-such-global") (hz:=⟨rfl,rfl⟩) (hG:=by kernel_rfl) λ D mB vC L J=>?_
 generalize Q:(pi X Z w.params os).abs=s at *;apply bd;intro E;obtain⟨⟨g,B⟩,my⟩:=Option.isSome_iff_exists.mp (layAllW_isSome (P:=w.params) (ord:=L) (R:=lc.claim.records) (cl:=classAt s.heap) (λ c y=>nomatch y) D lc.args s (pre_splitW mB).1);have C:=layAllW_keeps _ _ _ my;have TZ:=layAllW_rest _ _ _ my;obtain⟨as,jB,O,d⟩:x13:=reads_layAllW J _ _ _ my vC B.heap (λ _ _ e=>e);have N:sysModules<s.heap.objs.size:=by rw[<-Q];show sysModules<344;decide
 obtain⟨sc,v,e,Y,z⟩:=Xs w mB vC my jB (well_layAllW J D s _ my _ λ _ _ e=>e) (λ a I=>beq_eq_false_iff_ne.mpr λ e=>by have:=(O.2.2 a I).1;subst e;exact absurd N (Nat.not_lt.mpr this));apply E;subst e;obtain⟨G,Su⟩:∃G:i0 w (fX B.heap Os) ((pi X Z w.params os).abs.heap.nsMap cf) ((pi X Z w.params os).abs.heap.nsMap iA),G.ou=Os:=⟨Oo (X:=X) (Z:=Z) (P:=w.params) (os:=os) (V:=fX B.heap Os) (by rw[Q];exact λ a o m e=>y0 m (C _ _ e)) sp rZ ue,rfl⟩;refine⟨[v],B,my,?_⟩;have T:=(G.T B.heap λ _ _ h=>(qx h).2).1;have k9:=ML X Z w.params os;rw[Q] at k9;have A:=C _ _ k9.1;have p:isCodeTable B.heap Os:=⟨117,_,_,C _ _ k9.2,rfl,rfl,rfl⟩;refine aa (wpAny_nsGet (s:={B with gens:=#[]}) T ?_);rw[show(pi X Z w.params os).abs.heap.nsMap cf lc.name=some (.ref (G.fn 58)) from WU G];refine aa (Y1 (s:={B with gens:=#[]}) (P:=Os) G Su A Y rfl z λ s' k kP q u=>ah ?_);exact⟨_,rfl,NO Re rfl hi jB (W7 A p k kP),q.trans TZ.2.2.1,u,j _⟩
theorem adu {defs C:List Str}(O:∀n∈defs,n="law")(L:∃B,lc.claim.pre B=true/\WData.layableAll B=true):ClaimW.HoldsOpenBy (callStub lc.name) defs C lc.writes lc.claim:=by
 refine⟨⟨⟨rfl,rfl,rfl,rfl,rfl,by decide +kernel⟩,by kernel_rfl,rfl⟩,L,λ w=>?_⟩;apply bd;intro G;obtain⟨s,H,A,M,os,rfl⟩:x2311:=Q5 w;apply G;refine⟨⟨s,A⟩,λ J iS=>?_⟩;obtain rfl:J=s:=AfterImport.unique iS A;apply bd;intro G;obtain⟨X,Z,sp,rZ,ue,T⟩:x24:=TA w os;apply G;refine⟨_,M,rfl,_,T,λ n N=>?_,λ x D=>(nomatch D),λ x D=>(nomatch D),WG w os X Z sp rZ ue λ h q=>nomatch q⟩;rw[O n N];exact U5 X Z w.params os
end
end Mine
theorem Mine.said1 : PySem.Challenge.rw_oc0294_02.wellSaid = true := by kernel_rfl
theorem Mine.promised1 : PySem.Challenge.rw_oc0294_02.row.toRowW.promised := ⟨[.list []], by decide +kernel, by decide +kernel⟩
theorem PySem.Challenge.cw_oc0294_02_holds : PySem.Challenge.rw_oc0294_02.Holds := by
  exact holds_law Mine.said1 fun said => ⟨said, Mine.promised1, Mine.adu (fun n hn => List.mem_singleton.mp (show n ∈ [PySem.Challenge.rw_oc0294_02.row.name] by split at hn; exact hn; cases hn)) Mine.promised1.witness⟩
