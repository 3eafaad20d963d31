import PyProof.Rows.All
import Wide.All
import OpenK.AllK
import Wide.FinOn
import KE.KSortTup
import KE.KNest
import KE.KLam
import KE.KRevIter
import PyProof.Rows.Catch
import PyProof.Rows.RaiseClass
import PyProof.Rows.FactsExc_ZeroDivisionError
import PyProof.PassesOwn
import OpenK.KRaise
import KE.KNestM
import PyProof.Rows.FactsExc_ValueError
import PyProof.ExcStrAll.ValueError
import PyProof.ExcStrCall
import PyProof.RulesAs
import PyProof.NsDelKeeps
import PyProof.StrCalls5
import PyProof.StrLawsReplace
import OpenK.KOwn
import PyProof.GenQ
import PyProof.GenRules
import PyProof.Draws
import PyProof.EnumMake
import OpenK.KMake
import KE.KPar
import Lean
import PySem.Challenge.RW_ta0112_01
section
open Array renaming getElem?_toList->cr,length_toList->aN
open Bool renaming and_eq_true->cL,and_eq_true_iff->aM,casesOn->ah,eq_false_iff->dj,false_ne_true->cE,noConfusion->bh
open Int renaming dvd_trans->dJ,eq_ofNat_of_zero_le->cW,fmod_eq_emod_of_nonneg->b7,le_of_lt->cn,le_trans->aW,lt_of_le_of_lt->dC,mul_assoc->db,mul_comm->dO,mul_left_comm->dk,natCast_add->dz,natCast_mul->ci,natCast_nonneg->aK,natCast_pos->dy,ne_of_gt->dg,not_lt->dh,ofNat_le->bN,ofNat_lt->bR,one_mul->cw
open List renaming all_append->cg,all_eq_true->ay,append_assoc->aQ,append_nil->bk,casesOn->aO,contains_iff_mem->cO,getElem?_append_left->ba,getElem?_append_right->bA,getElem?_eq_getElem->aR,getElem?_eq_none_iff->dY,getElem?_eq_some_iff->au,length_append->ak,length_cons->b4,length_map->aE,mem_append->cJ,mem_append_left->cY,mem_append_right->dl,mem_cons->aX,mem_filter->cf,mem_flatMap->ce,mem_map->aP,mem_range->cI,mem_singleton->az,range->cX,rec->ej,replicate->cH,size_toArray->cA,toArray->de
open Nat renaming add_assoc->da,add_comm->bK,add_le_add->bV,add_le_add_left->bH,add_le_add_right->aT,beq->aS,ble->bz,ble_eq_true_of_le->a8,blt->dZ,eq_of_beq_eq_true->aV,exists_eq_succ_of_ne_zero->cb,le_add_left->c9,le_add_right->aG,le_antisymm->cK,le_mul_of_pos_right->cy,le_of_ble_eq_true->aq,le_of_eq->aC,le_of_lt->bJ,le_of_lt_succ->bD,le_of_succ_le->cS,le_refl->av,le_succ->cN,le_trans->ad,lt_add_of_pos_right->dF,lt_of_le_of_lt->aj,lt_of_lt_of_le->aA,lt_of_succ_lt_succ->dN,lt_trans->b8,mod_lt->dM,mul_le_mul_left->bj,mul_le_mul_right->dE,ne_of_gt->cx,ne_of_lt->cR,not_lt->bY,one_mul->dR,pos_of_ne_zero->dB,succ_le_succ->cM,zero_add->cF,zero_le->a9
open Option renaming casesOn->aw,map_eq_some_iff->bG,rec->cD
open Option.some renaming inj->af
open PySem renaming Addr->aB,Around->bv,Comprehension->cT,Heap->dq,Shared->ag,Stmt->bP,assignEach->dG,builtinLookup_eq_fast->bB,builtinsNs->cC,codeAny->dX,mainGlobals->bb,seg_execs_cons->dW,seg_execs_nil->dQ,standAt->dI,typeLookup_type->cq,wpAny->ar,wpAny_bind->aa,wpAny_execs_cons->bQ,wpAny_holding->aU,wpAny_loadPart_at->du,wpAny_mono->bF,wpAny_newObj_type->dt,wpAny_of_eq->bq,wpAny_pure->ao,wpAny_standAt->aJ
open PySem.Builtin renaming bitNot->bg
open PySem.Builtin.Int renaming intBits->aZ
open PySem.Builtin.Range renaming rangeSize->bZ,small->aY
open PySem.Expr renaming casesOn->bC
open PySem.Heap renaming get?_push_of_some->aD,get?_push_size->aF,lt_size->dK,size_push->dn
open PySem.SeqAt renaming shaped->bc
open PySem.Str renaming ofString->ae
open PySem PySem.W PySem.Spec PySem.Calls PyProof.Rows
set_option Elab.async false
set_option linter.unusedVariables false
set_option genSizeOf false
set_option genInjectivity false
set_option genCtorIdx false
set_option tactic.hygienic false
set_option maxRecDepth 100000
set_option maxHeartbeats 8000000
noncomputable section
namespace Mini.Internal
theorem ai{a b:Prop}(x:a)(y:b):a∧b:=⟨x,y⟩
theorem jD{α β:Type}{o:Option α}{f:α→Option β}{b:β}{G:Prop}(h:o.bind f=some b)(k: ∀a,o=some a→f a=some b→G):G:=(Option.bind_eq_some_iff.mp h).elim fun a h=>k a h.1 h.2
theorem kP{α β:Type}{o:Option α}{f:α→β}{b:β}{G:Prop}(h:o.map f=some b)(k: ∀a,o=some a→f a=b→G):G:=(bG.mp h).elim fun a h=>k a h.1 h.2
inductive Ty where
 |int
 |str
 |bool
 |one (a:Ty)
 |cons (a b:Ty)
 |list (a:Ty)
 |alt (a b:Ty)
noncomputable def Ty.same:(a b:Ty)→Option (PLift (a=b))
 | .int,b=>match b with
  | .int=>some ⟨rfl⟩
  |M=>none
 | .str,b=>match b with
  | .str=>some ⟨rfl⟩
  |M=>none
 | .bool,b=>match b with
  | .bool=>some ⟨rfl⟩
  |M=>none
 | .one a,c=>match c with
  | .one a'=>(same a a').map fun(e:PLift (a=a'))=>⟨e.down▸rfl⟩
  |M=>none
 | .cons a b,c=>match c with
  | .cons a' b'=>(same a a').bind fun(e:PLift (a=a'))=>(same b b').map fun(f:PLift (b=b'))=>⟨e.down▸f.down▸rfl⟩
  |M=>none
 | .list a,b=>match b with
  | .list a'=>(same a a').map fun(e:PLift (a=a'))=>⟨e.down▸rfl⟩
  |M=>none
 | .alt a b,c=>match c with
  | .alt a' b'=>(same a a').bind fun(e:PLift (a=a'))=>(same b b').map fun(f:PLift (b=b'))=>⟨e.down▸f.down▸rfl⟩
  |M=>none
@[reducible] noncomputable def den:Ty→Type
 | .int=>Int
 | .str=>List Nat
 | .bool=>Bool
 | .one a=>den a
 | .cons a b=>den a×den b
 | .list t=>List (den t)
 | .alt a b=>den a ⊕ den b
inductive V where
 |none
 |bool (b:Bool)
 |int (i:Int)
 |str (s:List Nat)
 |val (v:Value)
 |t0
 |tc (a r:V)
 |lst (t:Ty) (l:List (den t))
 |rng (a b c:Int)
 |own (n:Nat)
 |meth (f:aB) (self:V)
 |unb
noncomputable def V.ctorIdx(x:V):Nat:=V.casesOn x 0 (fun M=>1) (fun M=>2) (fun M=>3) (fun M=>4) 5 (fun M M=>6) (fun M M=>7) (fun M M M=>8) (fun M=>9) (fun M M=>10) 11
inductive AO where
 |dead
 |list (t:Ty) (l:List (den t))
 |cell (v:V)
 |inst (c:aB) (lk:Nat)
 |fn (tag:Nat) (cells:List (Str×Nat)) (lk:Option Nat)
 |attrs (l:List (Str×V))
 |calls (f:V) (stop:V) (ended:Bool)
 |loc (l:List (Str×V))
noncomputable def AO.ctorIdx(x:AO):Nat:=AO.casesOn x 0 (fun M M=>1) (fun M=>2) (fun M M=>3) (fun M M M=>4) (fun M=>5) (fun M M M=>6) (fun M=>7)
noncomputable abbrev Hp:=List AO
structure eB where
 params:Arguments
 body:FuncBody
 scope:Scope
noncomputable def bS:Nat:=1000000
noncomputable abbrev Fz:=aB→Option Obj
structure Wd where
 own:List aB
 F:Fz
 frs:List aB
noncomputable def Wd.add(W:Wd)(a:aB):Wd:=⟨W.own++[a],W.F,W.frs⟩
noncomputable def Fz.ins(F:Fz)(a:aB)(o:Obj):Fz:=fun b=>if b=a then some o else F b
noncomputable def Wd.ins(W:Wd)(a:aB)(o:Obj):Wd:=⟨W.own,W.F.ins a o,W.frs⟩
def Fz.le(F F':Fz):Prop:=∀a o,F a=some o→F' a=some o
theorem j5{α:Type}{n:Nat}{a:α}{p:Prop}(h:([]:List α)[n]? =some a):p:=absurd h (by simp)
theorem m9{α:Type}{p:α→Prop}: ∀k∈([]:List α),p k:=fun M h=>nomatch h
inductive bI{α β:Type}(R:α→β→Prop):List α→List β→Prop
 |nil:bI R [] []
 |cons {v u vs us}:R v u→bI R vs us→bI R (v::vs) (u::us)
section
variable{α β γ:Type}{R R':α→β→Prop}{vs:List α}{us:List β}
theorem bI.imp(r:bI R vs us):(∀v,∀u∈us,R v u→R' v u)→bI R' vs us:=by
 induction r with
 |nil=>exact fun M=> .nil
 |cons a _ ih=>exact fun h=> .cons (h _ _ (.head _) a) (ih fun v u m=>h v u (.tail _ m))
theorem bI.mono(h: ∀v u,R v u→R' v u)(r:bI R vs us):bI R' vs us:=r.imp fun v u M=>h v u
theorem bI.map{f:γ→β}{us:List γ}(r:bI (fun v c=>R v (f c)) vs us):bI R vs (us.map f):=by
 induction r with
 |nil=>exact .nil
 |cons a _ ih=>exact .cons a ih
theorem bI.length(r:bI R vs us):vs.length=us.length:=by
 induction r with
 |nil=>rfl
 |cons _ _ ih=>exact congrArg (· +1) ih
theorem bI.get(r:bI R vs us): ∀{i:Nat} {u:β},us[i]? =some u→∃v,vs[i]? =some v∧R v u:=by
 induction r with
 |nil=>exact j5
 |cons a _ ih=>
  intro i u e
  induction i using Nat.casesOn with
  |zero=>obtain rfl:=af e;exact⟨_,rfl,a⟩
  |succ i=>exact ih e
theorem bI.append(r:bI R vs us){ws:List α}{xs:List β}(h:bI R ws xs):bI R (vs++ws) (us++xs):=by
 induction r with
 |nil=>exact h
 |cons a _ ih=>exact .cons a ih
theorem bI.one{v:α}{u:β}(x:R v u):bI R [v] [u]:= .cons x .nil
theorem bI.drop(r:bI R vs us): ∀n,bI R (vs.drop n) (us.drop n):=by
 induction r with
 |nil=>intro n;rcases n with _|_<;>exact .nil
 |cons a b ih=>intro n;cases n;exact .cons a b;exact ih _
theorem bI.take(r:bI R vs us): ∀n,bI R (vs.take n) (us.take n):=by
 induction r with
 |nil=>intro n;rcases n with _|_<;>exact .nil
 |cons a b ih=>intro n;cases n;exact .nil;exact .cons a (ih _)
theorem bI.reverse(r:bI R vs us):bI R vs.reverse us.reverse:=by
 induction r with
 |nil=>exact .nil
 |cons a _ ih=>rw[List.reverse_cons,List.reverse_cons];exact ih.append (.one a)
@[elab_as_elim] theorem bI.inv0{C:List α→Prop}(r:bI R vs [])(k:C []):C vs:=by
 induction vs using aO with
 |nil=>exact k
 |cons _ _=>exact nomatch r.length
@[elab_as_elim] theorem bI.inv{C:List α→Prop}{u:β}(r:bI R vs (u::us))(k: ∀v w,R v u→bI R w us→C (v::w)):C vs:=
 match vs,r with
 |_,.cons a b=>k _ _ a b
@[elab_as_elim] theorem bI.inv1{C:List α→Prop}{u:β}(r:bI R vs [u])(k: ∀v,R v u→C [v]):C vs:=r.inv fun v w a b=>b.inv0 (C:=fun w=>C (v::w)) (k v a)
@[elab_as_elim] theorem bI.inv2{C:List α→Prop}{u w:β}(r:bI R vs [u,w])(k: ∀v x,R v u→R x w→C [v,x]):C vs:=r.inv fun v l a b=>b.inv1 (C:=fun l=>C (v::l)) fun x c=>k v x a c
end
inductive dT(i:Int):Value→Prop
 |mk (t:Tok):dT i (.int i t)
inductive eJ(s:List Nat):Value→Prop
 |mk (t:Tok) (z:s.length≤bS):eJ s (.str ⟨s.toArray⟩ t)
inductive eD(T:String)(F:Fz)(P:List Value→Prop):Value→Prop
 |mk (a:aB) (items:Array Value) (n:Nat) (ho:F a=some {cls:= .type T,data:= .seq items n}) (z:items.size≤bS) (r:P items.toList):eD T F P (.ref a)
inductive Ii(F:Fz)(a b c:Int):Value→Prop
 |mk (r:aB) (t u w:Tok) (ho:F r=some {cls:= .type "range",data:= .fields #[.int a t,.int b u,.int c w]}):Ii F a b c (.ref r)
inductive xI(W:Wd)(n:Nat):Value→Prop
 |mk (a:aB) (e:W.own[n]? =some a):xI W n (.ref a)
inductive A4(F:Fz)(f:aB)(P:Value→Prop):Value→Prop
 |mk (a:aB) (sv:Value) (ho:F a=some {cls:= .type "method",data:= .fields #[.ref f,sv]}) (r:P sv):A4 F f P (.ref a)
inductive fM(P:Value→Prop)(Q:List Value→Prop):List Value→Prop
 |mk (v:Value) (r:List Value) (h:P v) (t:Q r):fM P Q (v::r)
@[elab_as_elim] theorem dT.elim{i:Int}{C:Value→Prop}{v:Value}(r:dT i v)(k: ∀t,C (.int i t)):C v:=by cases r with |mk t=>exact k t
@[elab_as_elim] theorem eJ.elim{x:List Nat}{C:Value→Prop}{v:Value}(r:eJ x v)(k: ∀t,x.length≤bS→C (.str ⟨x.toArray⟩ t)):C v:=by cases r with |mk t z=>exact k t z
@[elab_as_elim] theorem xI.elim{W:Wd}{n:Nat}{C:Value→Prop}{v:Value}(r:xI W n v)(k: ∀a,W.own[n]? =some a→C (.ref a)):C v:=by cases r with |mk a e=>exact k a e
@[elab_as_elim] theorem eD.elim{T:String}{F:Fz}{P:List Value→Prop}{C:Value→Prop}{v:Value}(r:eD T F P v)(k: ∀a items n,F a=some {cls:= .type T,data:= .seq items n}→items.size≤bS→P items.toList→C (.ref a)):C v:=by cases r with |mk a i n x z r=>exact k a i n x z r
@[elab_as_elim] theorem fM.elim{P:Value→Prop}{Q:List Value→Prop}{C:List Value→Prop}{l:List Value}(r:fM P Q l)(k: ∀v r,P v→Q r→C (v::r)):C l:=by cases r with |mk v r a b=>exact k v r a b
theorem fM.mono{P P':Value→Prop}{Q Q':List Value→Prop}{l:List Value}(r:fM P Q l)(hp: ∀v,P v→P' v)(hq: ∀l,Q l→Q' l):fM P' Q' l:=by cases r with |mk v r a b=>exact .mk v r (hp _ a) (hq _ b)
def no(_:List Value):Prop:=False
noncomputable def D2(F:Fz):(t:Ty)→(den t→Value→Prop)×(den t→List Value→Prop)
 | .int=>(dT,fun M=>no)
 | .str=>(eJ,fun M=>no)
 | .bool=>(fun b v=>v= .bool b,fun M=>no)
 | .one a=>(fun d=>eD "tuple" F (fM ((D2 F a).1 d) (· =[])),fun d=>fM ((D2 F a).1 d) (· =[]))
 | .cons a b=>(fun d=>eD "tuple" F (fM ((D2 F a).1 d.1) ((D2 F b).2 d.2)),fun d=>fM ((D2 F a).1 d.1) ((D2 F b).2 d.2))
 | .list a=>(fun l=>eD "list" F (bI (fun v d=>(D2 F a).1 d v) · l),fun M=>no)
 | .alt a b=>(Sum.elim (D2 F a).1 (D2 F b).1,Sum.elim (D2 F a).2 (D2 F b).2)
def ff(F:Fz)(t:Ty)(v:Value)(d:den t):Prop:=(D2 F t).1 d v
noncomputable def V2(W:Wd):V→(Value→Prop)×(List Value→Prop)
 | .none=>((· = .none),no)
 | .bool b=>((· = .bool b),no)
 | .int i=>(dT i,no)
 | .str s=>(eJ s,no)
 | .val c=>((· =c),no)
 | .t0=>(eD "tuple" W.F (· =[]),(· =[]))
 | .tc a r=>(eD "tuple" W.F (fM (V2 W a).1 (V2 W r).2),fM (V2 W a).1 (V2 W r).2)
 | .lst t l=>(eD "list" W.F (bI (ff W.F t) · l),no)
 | .rng a b c=>(Ii W.F a b c,no)
 | .own n=>(xI W n,no)
 | .meth f self=>(A4 W.F f (V2 W self).1,no)
 | .unb=>(fun M=>False,no)
def a7(W:Wd)(v:Value)(u:V):Prop:=(V2 W u).1 v
def fJ(W:Wd)(l:List Value)(u:V):Prop:=(V2 W u).2 l
abbrev dD(W:Wd):List Value→List V→Prop:=bI (a7 W)
structure Tr(W W':Wd):Prop where
 own: ∀(n:Nat) a,W.own[n]? =some a→W'.own[n]? =some a
 F:W.F.le W'.F
section
variable{F F':Fz}{W W' W1 W2:Wd}
theorem Tr.refl(W:Wd):Tr W W:=⟨fun M M e=>e,fun M M e=>e⟩
theorem Tr.trans(x:Tr W W1)(y:Tr W1 W2):Tr W W2:=⟨fun n a e=>y.own n a (x.own n a e),fun a o e=>y.F a o (x.F a o e)⟩
theorem eD.mono{T:String}{P P':List Value→Prop}{v:Value}(x:F.le F')(r:eD T F P v)(hp: ∀l,P l→P' l):eD T F' P' v:=by cases r with |mk a i n ho z r=>exact .mk a i n (x _ _ ho) z (hp _ r)
theorem D2.mono(x:F.le F')(t:Ty):(∀{d v},(D2 F t).1 d v→(D2 F' t).1 d v)∧∀{d l},(D2 F t).2 d l→(D2 F' t).2 d l:=by
 induction t with
 |int=>exact⟨fun r=>r,fun r=>r⟩
 |str=>exact⟨fun r=>r,fun r=>r⟩
 |bool=>exact⟨fun r=>r,fun r=>r⟩
 |one a ih=>exact⟨fun r=>r.mono x fun M r=>r.mono (fun M=>ih.1) fun M r=>r,fun r=>fM.mono r (fun M=>ih.1) fun M r=>r⟩
 |cons a b ia ib=>exact⟨fun r=>r.mono x fun M r=>r.mono (fun M=>ia.1) fun M=>ib.2,fun r=>fM.mono r (fun M=>ia.1) fun M=>ib.2⟩
 |list a ih=>exact⟨fun r=>r.mono x fun M r=>r.mono fun M M=>ih.1,fun r=>r⟩
 |alt a b ia ib=>exact⟨fun{d v} r=>by cases d with |inl d=>exact ia.1 r|inr d=>exact ib.1 r,fun{d v} r=>by cases d with |inl d=>exact ia.2 r|inr d=>exact ib.2 r⟩
theorem ff.mono(x:F.le F'){t:Ty}{v:Value}{d:den t}(r:ff F t v d):ff F' t v d:=(D2.mono x t).1 r
theorem V2.mono(x:Tr W W')(u:V):(∀{v},(V2 W u).1 v→(V2 W' u).1 v)∧∀{l},(V2 W u).2 l→(V2 W' u).2 l:=by
 induction u with
 |t0=>exact⟨fun r=>eD.mono x.F r fun M r=>r,fun r=>r⟩
 |tc a r ia ir=>exact⟨fun r=>eD.mono x.F r fun M r=>r.mono (fun M=>ia.1) fun M=>ir.2,fun r=>fM.mono r (fun M=>ia.1) fun M=>ir.2⟩
 |lst t l=>exact⟨fun r=>eD.mono x.F r fun M r=>r.mono fun M M r=>r.mono x.F,fun r=>r⟩
 |rng=>exact⟨fun r=>by cases r with |mk r t u w ho=>exact .mk r t u w (x.F _ _ ho),fun r=>r⟩
 |own n=>exact⟨fun r=>by cases r with |mk a e=>exact .mk a (x.own _ _ e),fun r=>r⟩
 |meth f u ih=>exact⟨fun r=>by cases r with |mk a sv ho r=>exact .mk a sv (x.F _ _ ho) (ih.1 r),fun r=>r⟩
 |_=>exact⟨fun r=>r,fun r=>r⟩
theorem a7.tr(x:Tr W W'){v:Value}{u:V}(r:a7 W v u):a7 W' v u:=(V2.mono x u).1 r
theorem dD.tr(x:Tr W W'){vs:List Value}{us:List V}(r:dD W vs us):dD W' vs us:=bI.mono (fun M M=> .tr x) r
end
noncomputable def rN(l:List V):V:=l.foldr .tc .t0
theorem fJ.of{W:Wd}{vs:List Value}{us:List V}(r:dD W vs us):fJ W vs (rN us):=by
 induction r with
 |nil=>exact rfl
 |cons a _ ih=>exact .mk _ _ a ih
noncomputable def emb:(t:Ty)→den t→V
 | .int,i=> .int i
 | .str,s=> .str s
 | .bool,b=> .bool b
 | .one a,d=> .tc (emb a d) .t0
 | .cons a b,d=> .tc (emb a d.1) (emb b d.2)
 | .list t,l=> .lst t l
 | .alt a b,d=>Sum.elim (emb a) (emb b) d
theorem Hx{W:Wd}(t:Ty):(∀{d v},(D2 W.F t).1 d v→a7 W v (emb t d))∧∀{d l},(D2 W.F t).2 d l→fJ W l (emb t d):=by
 induction t with
 |int=>exact⟨fun r=>r,fun r=>r.elim⟩
 |str=>exact⟨fun r=>r,fun r=>r.elim⟩
 |bool=>exact⟨fun r=>r,fun r=>r.elim⟩
 |one a ih=>exact⟨fun r=>eD.mono (fun M M e=>e) r fun M r=>r.mono (fun M=>ih.1) fun M r=>r,fun r=>fM.mono r (fun M=>ih.1) fun M r=>r⟩
 |cons a b ia ib=>exact⟨fun r=>eD.mono (fun M M e=>e) r fun M r=>r.mono (fun M=>ia.1) fun M=>ib.2,fun r=>fM.mono r (fun M=>ia.1) fun M=>ib.2⟩
 |list a ih=>exact⟨fun r=>r,fun r=>r.elim⟩
 |alt a b ia ib=>exact⟨fun{d v} r=>by cases d with |inl d=>exact ia.1 r|inr d=>exact ib.1 r,fun{d v} r=>by cases d with |inl d=>exact ia.2 r|inr d=>exact ib.2 r⟩
theorem ff.emb{W:Wd}{t:Ty}{v:Value}{d:den t}(r:ff W.F t v d):a7 W v (emb t d):=(Hx t).1 r
def fN{α:Type}(o:Option α)(f:α→Prop):Prop:=match o with
 |some a=>f a
 |none=>False
theorem bO{α:Type}{C:Prop}{o:Option α}{f:α→Prop}(h:fN o f)(k: ∀a,o=some a→f a→C):C:=by
 induction o using aw with
 |none=>exact h.elim
 |some a=>exact k a rfl h
def iu{α:Type}(args:List α)(P:Prop):Prop:=match args with
 |[]=>P
 |M::Δ=>False
def iE{α:Type}(args:List α)(P:α→Prop):Prop:=match args with
 |x::r=>iu r (P x)
 |[]=>False
section
variable{α:Type}{l:List α}{C:List α→Prop}
@[elab_as_elim] theorem fV{P:Prop}(h:iu l P)(k:P→C []):C l:=by induction l using aO with |nil=>exact k h|cons _ _=>exact h.elim
@[elab_as_elim] theorem eA{P:α→Prop}(h:iE l P)(k: ∀x,P x→C [x]):C l:=by
 induction l using aO with
 |nil=>exact h.elim
 |cons x r=>exact fV (C:=fun r=>C (x::r)) h (k x)
end
def ly(v:V)(f:Int→Prop):Prop:=match v with
 | .int i=>f i
 |M=>False
def gU(v:V)(f:List Nat→Prop):Prop:=match v with
 | .str i=>f i
 |M=>False
def AT(v:V)(f:Bool→Prop):Prop:=match v with
 | .bool i=>f i
 |M=>False
def GR(v:V)(f:(t:Ty)→List (den t)→Prop):Prop:=match v with
 | .lst t l=>f t l
 |M=>False
def Dv(v:V)(f:Nat→Prop):Prop:=match v with
 | .own n=>f n
 |M=>False
def It(v:V)(f:V→V→Prop):Prop:=match v with
 | .tc a r=>f a r
 |M=>False
def Oy(v:V)(f:Prop):Prop:=match v with
 | .t0=>f
 |M=>False
@[elab_as_elim] theorem dA{C:V→Prop}{f:Int→Prop}{v:V}(h:ly v f)(k: ∀i,f i→C (.int i)):C v:=by induction v using V.casesOn with |int i=>exact k i h|_=>exact h.elim
@[elab_as_elim] theorem fj{C:V→Prop}{f:List Nat→Prop}{v:V}(h:gU v f)(k: ∀i,f i→C (.str i)):C v:=by induction v using V.casesOn with |str i=>exact k i h|_=>exact h.elim
@[elab_as_elim] theorem nH{C:V→Prop}{f:Bool→Prop}{v:V}(h:AT v f)(k: ∀i,f i→C (.bool i)):C v:=by induction v using V.casesOn with |bool i=>exact k i h|_=>exact h.elim
@[elab_as_elim] theorem uz{C:V→Prop}{f:(t:Ty)→List (den t)→Prop}{v:V}(h:GR v f)(k: ∀t l,f t l→C (.lst t l)):C v:=by induction v using V.casesOn with |lst t l=>exact k t l h|_=>exact h.elim
@[elab_as_elim] theorem Ae{C:V→Prop}{f:Nat→Prop}{v:V}(h:Dv v f)(k: ∀i,f i→C (.own i)):C v:=by induction v using V.casesOn with |own i=>exact k i h|_=>exact h.elim
@[elab_as_elim] theorem jX{C:V→Prop}{f:V→V→Prop}{v:V}(h:It v f)(k: ∀a r,f a r→C (.tc a r)):C v:=by induction v using V.casesOn with |tc a r=>exact k a r h|_=>exact h.elim
@[elab_as_elim] theorem qe{C:V→Prop}{f:Prop}{v:V}(h:Oy v f)(k:f→C .t0):C v:=by cases v with |t0=>exact k h|_=>exact h.elim
noncomputable def ma(t u:Ty)(l:List (den t)):Option (List (den u)):=(Ty.same t u).map fun(e:PLift (t=u))=>e.down▸l
theorem xy{t u:Ty}{l:List (den t)}{K:List (den u)→Prop}{C:(t:Ty)→List (den t)→Prop}(h:fN (ma t u l) K)(k: ∀l,K l→C u l):C t l:=by
 unfold ma at h
 induction e:Ty.same t u using aw with
 |none=>rw[e]at h;exact h.elim
 |some p=>rw[e]at h;obtain⟨rfl⟩:=p;exact k l h
noncomputable def Ty.tag:Ty→Nat
 | .int=>2
 | .str=>3
 | .bool=>1
 | .list M=>7
 |M=>6
noncomputable def un:(t:Ty)→V→(den t→Prop)→Prop
 | .int,v,K=>ly v K
 | .str,v,K=>gU v K
 | .bool,v,K=>AT v K
 | .one a,v,K=>It v fun x r=>Oy r (un a x K)
 | .cons a b,v,K=>It v fun x r=>un a x fun d=>un b r fun e=>K (d,e)
 | .list t,v,K=>GR v fun u l=>fN (ma u t l) K
 | .alt a b,v,K=>cond (aS v.ctorIdx a.tag) (un a v fun d=>K (.inl d)) (un b v fun d=>K (.inr d))
noncomputable def Ow(t:Ty):List V→(List (den t)→Prop)→Prop
 |[],K=>K []
 |v::r,K=>un t v fun d=>Ow t r fun l=>K (d::l)
theorem Ju{W:Wd}{C:Prop}(t:Ty):(∀{v u} {K:den t→Prop},un t u K→a7 W v u→(∀d,K d→(D2 W.F t).1 d v→C)→C)∧∀{l u} {K:den t→Prop},un t u K→fJ W l u→(∀d,K d→(D2 W.F t).2 d l→C)→C:=by
 induction t with
 |int=>exact⟨fun{v u K} h=>dA (C:=fun u=>a7 W v u→_→C) h fun i h r k=>k i h r,fun{l u K} h=>dA (C:=fun u=>fJ W l u→_→C) h fun i h r k=>r.elim⟩
 |str=>exact⟨fun{v u K} h=>fj (C:=fun u=>a7 W v u→_→C) h fun i h r k=>k i h r,fun{l u K} h=>fj (C:=fun u=>fJ W l u→_→C) h fun i h r k=>r.elim⟩
 |bool=>exact⟨fun{v u K} h=>nH (C:=fun u=>a7 W v u→_→C) h fun i h r k=>k i h r,fun{l u K} h=>nH (C:=fun u=>fJ W l u→_→C) h fun i h r k=>r.elim⟩
 |one a ih=>
  have key: ∀{l u} {K:den a→Prop},It u (fun x r=>Oy r (un a x K))→fJ W l u→(∀d,K d→fM ((D2 W.F a).1 d) (· =[]) l→C)→C:=fun{l u K} h=>jX (C:=fun u=>fJ W l u→_→C) h fun x r h q k=>qe (C:=fun r=>fJ W l (.tc x r)→C) h (fun h q=>by cases q with |mk v r p e=>exact ih.1 h p fun d kd rd=>k d kd (.mk v r rd e)) q
  exact⟨fun{v u K} h=>jX (C:=fun u=>a7 W v u→_→C) h fun x r h q k=>by cases q with |mk b i n ho z q=>exact key (u:= .tc x r) h q fun d kd rd=>k d kd (.mk b i n ho z rd),key⟩
 |cons a b ia ib=>
  have key: ∀{l u} {K:den a×den b→Prop},It u (fun x r=>un a x fun d=>un b r fun e=>K (d,e))→fJ W l u→(∀d,K d→fM ((D2 W.F a).1 d.1) ((D2 W.F b).2 d.2) l→C)→C:=fun{l u K} h=>jX (C:=fun u=>fJ W l u→_→C) h fun x r h q k=>by cases q with |mk v l p e=>exact ia.1 h p fun d h rd=>ib.2 h e fun f h rf=>k (d,f) h (.mk v l rd rf)
  exact⟨fun{v u K} h=>jX (C:=fun u=>a7 W v u→_→C) h fun x r h q k=>by cases q with |mk b i n ho z q=>exact key (u:= .tc x r) h q fun d kd rd=>k d kd (.mk b i n ho z rd),key⟩
 |list a ih=>exact⟨fun{v u K} h=>uz (C:=fun u=>a7 W v u→_→C) h fun t l h r k=>xy (C:=fun t l=>a7 W v (.lst t l)→C) h (fun l h r=>k l h r) r,fun{l u K} h=>uz (C:=fun u=>fJ W l u→_→C) h fun t l h r k=>r.elim⟩
 |alt a b ia ib=>
  refine⟨fun{v u K} h r k=> ?_,fun{l u K} h r k=> ?_⟩
  ·have h:cond (aS u.ctorIdx a.tag) (un a u fun d=>K (.inl d)) (un b u fun d=>K (.inr d)):=h
   cases q:aS u.ctorIdx a.tag with
   |true=>rw[q]at h;exact ia.1 h r fun d kd rd=>k (.inl d) kd rd
   |false=>rw[q]at h;exact ib.1 h r fun d kd rd=>k (.inr d) kd rd
  ·have h:cond (aS u.ctorIdx a.tag) (un a u fun d=>K (.inl d)) (un b u fun d=>K (.inr d)):=h
   cases q:aS u.ctorIdx a.tag with
   |true=>rw[q]at h;exact ia.2 h r fun d kd rd=>k (.inl d) kd rd
   |false=>rw[q]at h;exact ib.2 h r fun d kd rd=>k (.inr d) kd rd
theorem zM{W:Wd}{t:Ty}{v:Value}{u:V}{K:den t→Prop}{C:Prop}(h:un t u K)(r:a7 W v u)(k: ∀d,K d→ff W.F t v d→C):C:=(Ju t).1 h r k
theorem CD{W:Wd}{t:Ty}{C:Prop}{vs:List Value}{us:List V}(r:dD W vs us): ∀{K:List (den t)→Prop},Ow t us K→(∀l,K l→bI (ff W.F t) vs l→C)→C:=by
 induction r with
 |nil=>exact fun h k=>k [] h .nil
 |cons a _ ih=>exact fun h k=>zM h a fun d h rd=>ih h fun l h rl=>k (d::l) h (.cons rd rl)
theorem IV{μ:Model}{α:Type}{A:bv}{c:Prop}[Decidable c]{a b:Sem α}{Q:α→ag→Prop}{E:Value→ag→Prop}{s:ag}(h: ¬c)(k:ar μ A b Q E s):ar μ A (if c then a else b) Q E s:=(if_neg h).symm▸k
theorem KL{μ:Model}{α:Type}{A:bv}{c:Prop}[Decidable c]{a b:Sem α}{Q:α→ag→Prop}{E:Value→ag→Prop}{s:ag}(h:c)(k:ar μ A a Q E s):ar μ A (if c then a else b) Q E s:=(if_pos h).symm▸k
structure bW where
 prog:Program
 w:World
 h0:dq
 ct:List (aB×aB)
 os0:OsState
 code:Nat→Option eB
noncomputable def bW.tabs(B:bW):List aB:=B.ct.map (·.2)
noncomputable abbrev bW.M(B:bW):Model:=model B.prog B.w
inductive g5(F:Fz):Value→Prop
 |mk (c:aB) (o:Obj) (vs:Array Value) (t:Tok) (q:Str) (ho:F c=some o) (hd:o.data= .fields vs) (hv:vs[1]? =some (.str q t)):g5 F (.ref c)
theorem g5.mono{F F':Fz}{v:Value}(x:F.le F')(r:g5 F v):g5 F' v:=by cases r with |mk c o vs t q ho hd hv=>exact .mk c o vs t q (x _ _ ho) hd hv
inductive Oj(B:bW)(F:Fz)(h:dq)(c P:aB):Prop
 |mk (ps ps0 more:Array Value) (code:h.IsCode c P ps) (tab:h.TableAt c P ps) (tab0:B.h0.TableAt c P ps0) (e:ps=ps0++more) (ok: ∀pos v,codeAmong pos ps.toList=some v→g5 F v) (off:F P=none)
def jl(W:Wd)(cv:Option Value):Option V→Prop
 |none=>cv=none
 |some u=>∃v,cv=some v∧a7 W v u
def rG(W:Wd)(cv:Option Value)(u:V):Prop:=u= .unb∨∃v,cv=some v∧a7 W v u
section
variable{W W':Wd}(x:Tr W W')
include x
theorem rG.tr{v:Option Value}{u:V}(r:rG W v u):rG W' v u:=r.imp id fun r=>r.imp fun M r=>⟨r.1,r.2.tr x⟩
theorem jl.tr{v:Option Value}{u:Option V}(r:jl W v u):jl W' v u:=by
 cases u with
 |none=>exact r
 |some u=>exact r.imp fun M r=>⟨r.1,r.2.tr x⟩
end
def jh(W:Wd):List (Str×aB)→List (Str×Nat)→Prop:=bI fun p q=>p.1=q.1∧W.own[q.2]? =some p.2
def zD(W:Wd)(d:Option aB):Option Nat→Prop
 |none=>d=none
 |some k=>∃x,d=some x∧W.own[k]? =some x
theorem jh.tr{W W':Wd}(x:Tr W W'){l:List (Str×aB)}{t:List (Str×Nat)}(r:jh W l t):jh W' l t:=r.mono fun M M r=>⟨r.1,x.own _ _ r.2⟩
theorem zD.tr{W W':Wd}(x:Tr W W'){d:Option aB}{lk:Option Nat}(r:zD W d lk):zD W' d lk:=by
 cases lk with
 |none=>exact r
 |some k=>exact r.imp fun M r=>⟨r.1,x.own _ _ r.2⟩
noncomputable def m4{β:Type}(x:Str)(v:β):List (Str×β)→List (Str×β)
 |[]=>[(x,v)]
 |p::r=>cond (x==p.1) ((x,v)::r) (p::m4 x v r)
theorem cz{α β:Type}[BEq α](p:α×β)(l:List (α×β))(y:α):(p::l).lookup y=cond (y==p.1) (some p.2) (l.lookup y):=by
 rw[List.lookup];cases y==p.1<;>rfl
theorem Av{α:Type}{a b:α}{k:Nat}(h:[a][k]? =some b):k=0∧b=a:=by
 induction k using Nat.casesOn with
 |zero=>exact⟨rfl,(af h).symm⟩
 |succ k=>injection h
theorem jw{β:Type}(x:Str)(v:β)(l:List (Str×β))(y:Str):(m4 x v l).lookup y=cond (y==x) (some v) (l.lookup y):=by
 induction l with
 |nil=>exact cz ..
 |cons p r ih=>
  show(cond (x==p.1) ((x,v)::r) (p::m4 x v r)).lookup y=_
  cases h:x==p.1
  ·rw[cond_false,cz,ih,cz]
   cases h2:y==p.1
   ·rfl
   ·rw[show(y==x)=false by rw[eq_of_beq h2,Bool.beq_comm];exact h];rfl
  ·rw[cond_true,cz,cz,←eq_of_beq h];cases y==x<;>rfl
theorem fG{α β:Type}[BEq α][LawfulBEq α]{l:List (α×β)}{x:α}{v:β}(h:l.lookup x=some v):(x,v)∈l:=by
 induction l with
 |nil=>cases h
 |cons p l ih=>
  rw[cz]at h
  cases e:x==p.1<;>rw[e]at h
  ·exact .tail _ (ih h)
  ·rw[←af h,eq_of_beq e]
   exact .head _
theorem jh.lookup{W:Wd}{x:Str}{n:Nat}{t:List (Str×Nat)}{l:List (Str×aB)}(r:jh W l t):t.lookup x=some n→∃a,l.lookup x=some a∧W.own[n]? =some a:=by
 induction r with
 |nil=>exact nofun
 | @cons p q _ _ a _ ih=>
  intro e
  rw[cz]at e ⊢
  rw[a.1]
  cases h:x==q.1<;>rw[h]at e
  ·exact ih e
  ·exact⟨_,rfl,af e▸a.2⟩
structure PP(fc:eB)(fd:FuncData):Prop where
 params:fd.params=fc.params
 body:fd.body=fc.body
 scope:fd.scope=fc.scope
 globals:fd.globals=bb
 builtins:fd.builtins=cC
 defaults:fd.defaults= .none
 kwdefaults:fd.kwdefaults= .none
inductive lZ(h:dq)(a:aB)(P:List Value→Prop):Prop
 |mk (items:Array Value) (n:Nat) (ho:IsL h a items n) (z:items.size≤bS) (r:P items.toList)
inductive A8(h:dq)(a:aB)(P:Option Value→Prop):Prop
 |mk (cv:Option Value) (ho:h.get? a=some {cls:= .type "cell",data:= .cell cv}) (r:P cv)
inductive A5(h:dq)(W:Wd)(a C:aB)(lk:Nat):Prop
 |mk (o:Obj) (d:aB) (ho:h.get? a=some o) (hc:o.cls= .ref C) (hd: ∀c,o.data≠ .cls c) (e:o.dict=some d) (r:W.own[lk]? =some d)
inductive L6(B:bW)(h:dq)(W:Wd)(a:aB)(tag:Nat)(cs:List (Str×Nat))(lk:Option Nat):Prop
 |mk (fc:eB) (fd:FuncData) (od:Option aB) (sl:Array (Option Value)) (hf:B.code tag=some fc) (ok:PP fc fd) (code:g5 W.F fd.code) (cl:jh W fd.closure cs) (ho:h.get? a=some ⟨.type "function",od,.func fd,sl⟩) (r:zD W od lk)
inductive rI(h:dq)(W:Wd)(a:aB)(l:List (Str×V)):Prop
 |mk (m:Str→Option Value) (ns:h.Ns1 a m) (ex:h.ExactDictFk a) (r: ∀x,jl W (m x) (l.lookup x))
inductive rH(h:dq)(a:aB)(P Q:Value→Prop)(e:Bool):Prop
 |mk (fv sv:Value) (ho:h.get? a=some {cls:= .type "callable_iterator",data:= .fields #[fv,sv,.bool e]}) (r1:P fv) (r2:Q sv)
inductive jH(h:dq)(W:Wd)(a:aB)(l:List (Str×V)):Prop
 |mk (m:Str→Option Value) (ns:h.Ns a m) (r: ∀x u,l.lookup x=some u→rG W (m x) u)
def kM(B:bW)(h:dq)(W:Wd)(a:aB):AO→Prop
 | .dead=>∃o,h.get? a=some o
 | .list t l=>lZ h a (bI (ff W.F t) · l)
 | .cell v=>A8 h a (rG W · v)
 | .inst C lk=>A5 h W a C lk
 | .fn tag cs lk=>L6 B h W a tag cs lk
 | .attrs l=>rI h W a l
 | .calls f st e=>rH h a (a7 W · f) (a7 W · st) e
 | .loc l=>jH h W a l
theorem tf{h h':dq}{a:aB}{m:Str→Option Value}(e:h'.get? a=h.get? a)(x:h.Ns1 a m):h'.Ns1 a m:=by unfold dq.Ns1;rw[e];exact x
theorem DB{h h':dq}{a:aB}{m:Str→Option Value}(e:h'.get? a=h.get? a)(x:h.Ns a m):h'.Ns a m:=by unfold dq.Ns;rw[e];exact x
theorem xk{h h':dq}{a:aB}(e:h'.get? a=h.get? a)(x:h.ExactDictFk a):h'.ExactDictFk a:=by unfold dq.ExactDictFk;rw[e];exact x
theorem kM.alive{B:bW}{h:dq}{W:Wd}{a:aB}{o:AO}(r:kM B h W a o): ∃ob,h.get? a=some ob:=by
 cases o with
 |dead=>exact r
 |list t l=>cases r with |mk _ _ e=>exact⟨_,e⟩
 |cell v=>cases r with |mk _ e=>exact⟨_,e⟩
 |inst C lk=>cases r with |mk _ _ e=>exact⟨_,e⟩
 |fn tag cs lk=>cases r with |mk _ _ _ _ _ _ _ _ e=>exact⟨_,e⟩
 |attrs l=>cases r with |mk m n=>exact n.elim fun o n=>n.elim fun M n=>n.elim fun M n=>⟨_,n.1⟩
 |calls f st e=>cases r with |mk _ _ e=>exact⟨_,e⟩
 |loc l=>cases r with |mk m n=>exact n.elim fun o n=>n.elim fun M n=>n.elim fun M n=>⟨_,n.1⟩
theorem kM.tr{B:bW}{W W':Wd}{h h':dq}(x:Tr W W'){a:aB}{o:AO}(e:h'.get? a=h.get? a)(r:kM B h W a o):kM B h' W' a o:=by
 cases o with
 |dead=>exact r.imp fun M r=>e.trans r
 |list t l=>cases r with |mk i n ho z r=>exact .mk i n (e.trans ho) z (r.mono fun M M r=>r.mono x.F)
 |cell v=>cases r with |mk i ho r=>exact .mk i (e.trans ho) (r.tr x)
 |inst C lk=>cases r with |mk o d ho hc hd q r=>exact .mk o d (e.trans ho) hc hd q (x.own _ _ r)
 |fn tag cs lk=>cases r with |mk fc fd od sl hf ok code cl ho r=>exact .mk fc fd od sl hf ok (code.mono x.F) (cl.tr x) (e.trans ho) (r.tr x)
 |attrs l=>cases r with |mk m n ex r=>exact .mk m (tf e n) (xk e ex) fun y=>(r y).tr x
 |calls f st en=>cases r with |mk fv sv ho r1 r2=>exact .mk fv sv (e.trans ho) (r1.tr x) (r2.tr x)
 |loc l=>cases r with |mk m n r=>exact .mk m (DB e n) fun y u q=>(r y u q).tr x
def nL(h:dq)(a:aB):Prop:=∃o,h.get? a=some o∧∀vs,o.data≠ .fields vs
def xG(h h':dq)(a:aB):Prop:=∀o,h.get? a=some o→∃sl,h'.get? a=some {o with slots:=sl}
theorem xG.of{h h':dq}{a:aB}(k: ∀o,h.get? a=some o→h'.get? a=some o):xG h h' a:=fun o e=>⟨o.slots,k o e⟩
theorem xG.frm{h h':dq}{a:aB}(x:xG h h' a)(r:nL h a):nL h' a:=r.elim fun o r=>(x o r.1).elim fun sl e=>⟨_,e,r.2⟩
theorem nL.alive{h:dq}{a:aB}(r:nL h a): ∃o,h.get? a=some o:=r.imp fun M r=>r.1
theorem jH.frm{h:dq}{W:Wd}{a:aB}{l:List (Str×V)}(r:jH h W a l):nL h a:=by
 cases r with |mk m n r=>exact n.elim fun o n=>n.elim fun M n=>n.elim fun M n=>⟨o,n.1,fun vs q=>nomatch n.2.1.symm.trans q⟩
theorem jH.slot{h h':dq}{W W':Wd}(x:Tr W W'){a:aB}{l:List (Str×V)}(k:xG h h' a)(r:jH h W a l):jH h' W' a l:=by
 cases r with
 |mk m n r=>
  refine n.elim fun o zz=>zz.elim fun es zz=>zz.elim fun ep zz=>zz.elim fun e zz=>zz.elim fun d z=> ?_
  obtain⟨sl,e'⟩:=k o e
  exact .mk m ⟨_,es,ep,e',d,z⟩ fun y u q=>(r y u q).tr x
structure R(B:bW)(W:Wd)(hp:Hp)(s:ag):Prop where
 sub: ∀a o,W.F a=some o→s.heap.get? a=some o
 base: ∀a o,B.h0.get? a=some o→a ∉ B.tabs→W.F a=some o
 len:W.own.length=hp.length
 nodup:W.own.Nodup
 tab: ∀a∈W.own,a ∉ B.tabs
 off: ∀(n:Nat) a,W.own[n]? =some a→W.F a=none∨hp[n]? =some .dead
 objs: ∀(n:Nat) a o,W.own[n]? =some a→hp[n]? =some o→kM B s.heap W a o
 tabs: ∀c P,(c,P)∈B.ct→Oj B W.F s.heap c P
 gens:AllBare s.gens
 os:s.os=B.os0
 frs: ∀L∈W.frs,nL s.heap L∧L ∉ B.tabs∧W.F L=none
 frO: ∀(n:Nat) a,W.own[n]? =some a→a∈W.frs→∃l,hp[n]? =some (.loc l)
structure Le(B:bW)(W:Wd)(s:ag)(W':Wd)(s':ag):Prop extends Tr W W' where
 frs:W'.frs=W.frs
 newO: ∀a∈W'.own,a∈W.own∨s.heap.get? a=none
 newF: ∀a o,W'.F a=some o→W.F a=some o∨s.heap.get? a=none
 keep: ∀a o,s.heap.get? a=some o→a ∉ W.own→a ∉ B.tabs→a ∉ W.frs→s'.heap.get? a=some o
 frk: ∀L∈W.frs,L ∉ W.own→xG s.heap s'.heap L
 live: ∀a,s'.heap.get? a=none→s.heap.get? a=none
 gens: ∀(g:Nat) x,s.gens[g]? =some x→s'.gens[g]? =some x
section
variable{B:bW}{W W' W1 W2:Wd}{hp hp':Hp}{s s' s1 s2:ag}{a:aB}
theorem Le.refl(B:bW)(W:Wd)(s:ag):Le B W s W s:=⟨.refl W,rfl,fun M h=> .inl h,fun M M h=> .inl h,fun M M e M M M=>e,fun M M M=> .of fun M e=>e,fun M h=>h,fun M M h=>h⟩
theorem Le.trans(x:Le B W s W1 s1)(y:Le B W1 s1 W2 s2):Le B W s W2 s2 where
 toTr:=x.toTr.trans y.toTr
 frs:=y.frs.trans x.frs
 newO a h:=(y.newO a h).elim (x.newO a) fun h=> .inr (x.live a h)
 newF a o h:=(y.newF a o h).elim (x.newF a o) fun h=> .inr (x.live a h)
 keep a o e h1 h2 h3:=y.keep a o (x.keep a o e h1 h2 h3) (fun h=>(x.newO a h).elim h1 fun h=>nomatch e.symm.trans h) h2 (x.frs▸h3)
 frk a m h o e:=by
  refine(x.frk a m h o e).elim fun sl e1=> ?_
  refine(y.frk a (x.frs.symm▸m) (fun h'=>(x.newO a h').elim h fun h'=>nomatch e.symm.trans h') _ e1).elim fun sl' e2=> ?_
  exact⟨sl',e2⟩
 live a h:=x.live a (y.live a h)
 gens g z e:=y.gens g z (x.gens g z e)
theorem cc{h:dq}{k:aB}(hk:h.objs.size≤k):h.get? k=none:=by
 cases e:h.get? k with
 |none=>rfl
 |some o=>exact absurd (dK e) (bY.mpr hk)
theorem c8{n:Nat}(h:W.own[n]? =some a):a∈W.own:=List.mem_of_getElem? h
theorem R.obj(r:R B W hp s){n:Nat}(h:W.own[n]? =some a): ∃o,hp[n]? =some o∧kM B s.heap W a o:=
 have hl:n<hp.length:=r.len▸(au.mp h).1
 ⟨_,aR hl,r.objs n a _ h (aR hl)⟩
theorem R.alive(r:R B W hp s)(h:a∈W.own): ∃o,s.heap.get? a=some o:=
 (List.getElem?_of_mem h).elim fun M h=>(r.obj h).elim fun M r=>r.2.alive
theorem R.tabAlive(r:R B W hp s){P:aB}(h:P∈B.tabs):(∃ps,s.heap.get? P=some {cls:= .none,data:= .fields ps})∧W.F P=none:=by
 obtain⟨⟨c,P'⟩,hm,rfl⟩:=aP.mp h
 cases r.tabs c P' hm with |mk ps _ _ _ t _ _ _ off=>exact⟨⟨ps,t.2⟩,off⟩
theorem ez{h:dq}{k:aB}{o:Obj}(e:h.get? a=some o)(n:h.get? k=none):a≠k:=fun z=>nomatch n.symm.trans (z▸e:h.get? k=some o)
theorem R.dead(r:R B W hp s)(h:s.heap.get? a=none):a ∉ W.own∧W.F a=none∧a ∉ B.tabs:=
 ⟨fun m=>(r.alive m).elim fun M e=>ez e h rfl,by
  cases e:W.F a with
  |none=>rfl
  |some o=>exact absurd rfl (ez (r.sub a o e) h),fun m=>(r.tabAlive m).1.elim fun M e=>ez e h rfl⟩
theorem R.step(r:R B W hp s)(X:aB→Prop)(hX: ∀a,X a→(W.F a=none∨s.heap.get? a=none)∧a ∉ B.tabs)(hk: ∀a o,¬X a→s.heap.get? a=some o→s'.heap.get? a=some o)(hg:s'.gens=s.gens)(ho:s'.os=s.os)
  (hF:W.F.le W'.F) (sub: ∀a o,W'.F a=some o→W.F a=some o∨s'.heap.get? a=some o∧a ∉ B.tabs) (len:W'.own.length=hp'.length) (nodup:W'.own.Nodup) (tab: ∀a∈W'.own,a ∉ B.tabs)
  (off: ∀(n:Nat) a,W'.own[n]? =some a→W'.F a=none∨hp'[n]? =some .dead) (objs: ∀(n:Nat) a o,W'.own[n]? =some a→hp'[n]? =some o→kM B s'.heap W' a o)
  (fw:W'.frs=W.frs) (fF: ∀L∈W.frs,W'.F L=none) (fX: ∀L∈W.frs,X L→nL s'.heap L) (frO: ∀(n:Nat) a,W'.own[n]? =some a→a∈W.frs→∃l,hp'[n]? =some (.loc l)):R B W' hp' s':=by
 have kF: ∀{a o},W.F a=some o→s'.heap.get? a=some o:=fun{a o} e=>hk a o (fun x=>(hX a x).1.elim (fun z=>nomatch e.symm.trans z) fun z=>nomatch(r.sub a o e).symm.trans z) (r.sub a o e)
 have fr: ∀L∈W'.frs,nL s'.heap L∧L ∉ B.tabs∧W'.F L=none:=fun L m=>by
  have m':L∈W.frs:=fw▸m
  have q:=r.frs L m'
  refine⟨?_,q.2.1,fF L m'⟩
  by_cases x:X L
  ·exact fX L m' x
  ·exact q.1.imp fun o z=>⟨hk L o x z.1,z.2⟩
 refine⟨fun a o e=>(sub a o e).elim kF (·.1),fun a o e h=>hF a o (r.base a o e h),len,nodup,tab,off,objs,fun c P hm=> ?_,hg▸r.gens,ho.trans r.os,fr,fun n a e m=>frO n a e (fw▸m)⟩
 cases r.tabs c P hm with |mk ps ps0 more h1 h2 h0 e ok off=> ?_
 have hP:P∈B.tabs:=aP.mpr ⟨_,hm,rfl⟩
 have e2:s'.heap.get? P=s.heap.get? P:=(hk P _ (fun x=>(hX P x).2 hP) h2.2).trans h2.2.symm
 refine h0.1.elim fun oc zz=>zz.elim fun vc zz=>zz.elim fun hc h4=> ?_
 refine h2.1.elim fun oc' zz=>zz.elim fun M zz=>zz.elim fun h3 M=> ?_
 have e1:s'.heap.get? c=s.heap.get? c:=by
  by_cases ct:c∈B.tabs
  ·exact(hk c _ (fun x=>(hX c x).2 ct) h3).trans h3.symm
  ·have:=r.base c oc hc ct
   exact(kF this).trans (r.sub _ _ this).symm
 refine .mk ps ps0 more (by unfold dq.IsCode at h1 ⊢;rw[e1,e2];exact h1) (by unfold dq.TableAt at h2 ⊢;rw[e1,e2];exact h2) h0 e (fun pos v q=>(ok pos v q).mono hF) ?_
 cases q:W'.F P with
 |none=>rfl
 |some o=>exact(sub P o q).elim (fun z=>nomatch z.symm.trans off) fun z=>absurd hP z.2
structure dP(s s':ag):Prop where
 keep: ∀a o,s.heap.get? a=some o→s'.heap.get? a=some o
 gens:s'.gens=s.gens
 os:s'.os=s.os
theorem dP.live(x:dP s s')(h:s'.heap.get? a=none):s.heap.get? a=none:=by
 cases e:s.heap.get? a with
 |none=>rfl
 |some o=>exact nomatch(x.keep a o e).symm.trans h
theorem dP.toks(s:ag)(t:Nat):dP s {s with toks:=t}:=⟨fun M M e=>e,rfl,rfl⟩
theorem dP.push(s:ag)(o:Obj)(t:Nat):dP s {s with heap:=s.heap.push o,toks:=t}:=⟨fun M M=>aD _,rfl,rfl⟩
theorem dP.le(x:dP s s'):Le B W s W s':=⟨.refl W,rfl,fun M h=> .inl h,fun M M h=> .inl h,fun a o e M M M=>x.keep a o e,fun L M M=> .of (x.keep L),fun M h=>x.live h,fun M M e=>x.gens▸e⟩
theorem dP.same(x:dP s s')(r: ∃o,s.heap.get? a=some o):s'.heap.get? a=s.heap.get? a:=r.elim fun M e=>(x.keep _ _ e).trans e.symm
theorem R.frF(r:R B W hp s): ∀L∈W.frs,W.F L=none:=fun L m=>(r.frs L m).2.2
theorem R.grow(r:R B W hp s)(x:dP s s'):R B W hp s':=
 r.step (fun M=>False) (fun M h=>h.elim) (fun a o M=>x.keep a o) x.gens x.os (fun M M e=>e) (fun M M=> .inl) r.len r.nodup r.tab r.off (fun n a o h1 h2=>have q:=r.objs n a o h1 h2;q.tr (.refl W) (x.same q.alive)) rfl r.frF (fun M M h=>h.elim) r.frO
theorem R.toks(r:R B W hp s){t:Nat}:R B W hp {s with toks:=t}:=r.grow (.toks s t)
theorem Fz.le_ins{F:Fz}{o:Obj}(h:F a=none):F.le (F.ins a o):=fun b o e=>by
 unfold Fz.ins
 rw[if_neg (fun(z:b=a)=>nomatch(z▸e.symm:some o=F a).trans h)];exact e
theorem Fz.ins_at{F:Fz}{o:Obj}:F.ins a o a=some o:=if_pos rfl
theorem Fz.of_ins{F:Fz}{b:aB}{o o':Obj}(h:F.ins a o b=some o'):F b=some o'∨b=a∧o'=o:=by
 unfold Fz.ins at h
 split at h
 ·rename_i q;exact .inr ⟨q,(af h).symm⟩
 ·exact .inl h
theorem Fz.ins_none{F:Fz}{b:aB}{o:Obj}(h:F b=none)(n:b≠a):F.ins a o b=none:=(if_neg n).trans h
theorem dP.leIns(x:dP s s')(r:R B W hp s)(hf:s.heap.get? a=none){o:Obj}:Le B W s (W.ins a o) s':=
 ⟨⟨fun M M e=>e,Fz.le_ins (r.dead hf).2.1⟩,rfl,fun M h=> .inl h,fun b M h=>(Fz.of_ins h).imp id fun(h:b=a∧_)=>h.1▸hf,fun a o e M M M=>x.keep a o e,fun L M M=> .of (x.keep L),fun M h=>x.live h,fun M M e=>x.gens▸e⟩
theorem R.ins(r:R B W hp s)(x:dP s s')(hf:s.heap.get? a=none){o:Obj}(e:s'.heap.get? a=some o):R B (W.ins a o) hp s':=
 have d:=r.dead hf
 have t:Tr W (W.ins a o):=⟨fun M M e=>e,Fz.le_ins d.2.1⟩
 r.step (fun M=>False) (fun M h=>h.elim) (fun a o M=>x.keep a o) x.gens x.os t.F (fun b o' h=>(Fz.of_ins h).imp id fun(h:b=a∧o'=o)=>⟨h.1▸h.2▸e,h.1▸d.2.2⟩) r.len r.nodup r.tab
  (fun n b h=>(r.off n b h).imp (fun z=>by
   cases q:W.F.ins a o b with
   |none=>exact q
   |some o'=>exact(Fz.of_ins q).elim (fun w=>nomatch w.symm.trans z) fun w=>absurd (c8 h) (w.1▸d.1)) id)
  (fun n b o' h1 h2=>have q:=r.objs n b o' h1 h2;q.tr t (x.same q.alive)) rfl (fun L m=>Fz.ins_none (r.frF L m) fun z=>(r.frs L m).1.alive.elim fun M e=>ez e hf z) (fun M M h=>h.elim) r.frO
structure tP(a:aB)(s s':ag):Prop where
 keep: ∀b o,b≠a→s.heap.get? b=some o→s'.heap.get? b=some o
 alive: ∃o,s'.heap.get? a=some o
 gens:s'.gens=s.gens
 os:s'.os=s.os
theorem tP.live(x:tP a s s'){b:aB}(h:s'.heap.get? b=none):s.heap.get? b=none:=by
 cases e:s.heap.get? b with
 |none=>rfl
 |some o=>exact absurd rfl (ez (x.keep b o (fun z=>x.alive.elim fun M q=>ez q h z.symm) e) h)
theorem tP.le(x:tP a s s')(h:a∈W.own∨s.heap.get? a=none):Le B W s W s':=
 ⟨.refl W,rfl,fun M h=> .inl h,fun M M h=> .inl h,fun b o e h1 M M=>x.keep b o (fun z=>h.elim (fun m=>h1 (z▸m)) fun d=>ez e d z) e,fun L M h1 o e=>⟨o.slots,x.keep L o (fun z=>h.elim (fun m=>h1 (z▸m)) fun d=>ez e d z) e⟩,fun M h=>x.live h,fun M M e=>x.gens▸e⟩
theorem R.write(r:R B W hp s)(x:tP a s s'){n:Nat}(hn:W.own[n]? =some a)(hF:W.F a=none){o':AO}(hO:kM B s'.heap W a o')(hl:(∃l,hp[n]? =some (.loc l))→∃l,o'= .loc l):R B W (hp.set n o') s':=by
 have hlen:n<hp.length:=r.len▸(au.mp hn).1
 refine r.step (· =a) (fun M h=>h▸⟨.inl hF,r.tab a (c8 hn)⟩) (fun b o=>x.keep b o) x.gens x.os (fun M M e=>e) (fun M M=> .inl) (by rw[List.length_set];exact r.len) r.nodup r.tab (fun m b h=> ?_) (fun m b o h1 h2=> ?_) rfl r.frF (fun L m z=> ?_) fun m b h1 h2=> ?_
 rotate_left 2
 ·subst z
  obtain⟨l,rfl⟩:=hl (r.frO n L hn m)
  exact jH.frm hO
 ·by_cases hm:n=m
  ·subst hm
   obtain rfl:=af (hn.symm.trans h1)
   exact(hl (r.frO n _ hn h2)).imp fun l e=>by rw[e,List.getElem?_set_self hlen]
  ·rw[List.getElem?_set_ne hm];exact r.frO m b h1 h2
 all_goals by_cases hm:n=m
 ·exact .inl ((af ((hm▸hn).symm.trans h))▸hF)
 ·rw[List.getElem?_set_ne hm];exact r.off m b h
 ·subst hm
  rw[List.getElem?_set_self (r.len▸(au.mp hn).1)]at h2
  exact af h2▸af (hn.symm.trans h1)▸hO
 ·rw[List.getElem?_set_ne hm]at h2
  have q:=r.objs m b o h1 h2
  have ne:b≠a:=fun z=>hm ((List.getElem?_inj (au.mp hn).1 r.nodup).mp (hn.trans (z▸h1.symm)))
  exact q.tr (.refl W) (q.alive.elim fun M e=>(x.keep b _ ne e).trans e.symm)
structure gp(B:bW)(W:Wd)(a:aB):Prop where
 own:a ∉ W.own
 F:W.F a=none
 tab:a ∉ B.tabs
 frs:a ∉ W.frs
theorem R.priv(r:R B W hp s)(p:gp B W a)(x:tP a s s'):R B W hp s':=
 r.step (· =a) (fun M h=>h▸⟨.inl p.F,p.tab⟩) (fun b o=>x.keep b o) x.gens x.os (fun M M e=>e) (fun M M=> .inl) r.len r.nodup r.tab r.off (fun n b o h1 h2=>have q:=r.objs n b o h1 h2
  q.tr (.refl W) (q.alive.elim fun M e=>(x.keep b _ (fun z=>p.own (z▸c8 h1)) e).trans e.symm)) rfl r.frF (fun L m z=>absurd (z▸m) p.frs) r.frO
theorem R.fresh(r:R B W hp s)(h:s.heap.get? a=none):gp B W a:=have d:=r.dead h;⟨d.1,d.2.1,d.2.2,fun m=>(r.frs a m).1.alive.elim fun M e=>ez e h rfl⟩
theorem Le.priv(x:Le B W s W' s')(p:gp B W a){o:Obj}(e:s.heap.get? a=some o):gp B W' a∧s'.heap.get? a=some o:=
 ⟨⟨fun m=>(x.newO a m).elim p.own fun z=>ez e z rfl,by
  cases q:W'.F a with
  |none=>rfl
  |some o'=>exact(x.newF a o' q).elim (fun z=>nomatch z.symm.trans p.F) fun z=>absurd rfl (ez e z),p.tab,x.frs▸p.frs⟩,x.keep a o e p.own p.tab p.frs⟩
theorem Tr.add:Tr W (W.add a):=⟨fun n b e=>(ba (au.mp e).1).trans e,fun M M e=>e⟩
theorem dP.leAdd(x:dP s s')(hf:s.heap.get? a=none):Le B W s (W.add a) s':=
 ⟨.add,rfl,fun k h=>(cJ.mp h).imp id fun h=>(az.mp h:k=a)▸hf,fun M M h=> .inl h,fun a o e M M M=>x.keep a o e,fun L M M=> .of (x.keep L),fun M h=>x.live h,fun M M e=>x.gens▸e⟩
theorem R.addAt(r:R B W hp s):(W.add a).own[hp.length]? =some a:=r.len▸List.getElem?_concat_length
theorem R.add(r:R B W hp s)(x:dP s s')(hf:s.heap.get? a=none){o':AO}(hO:kM B s'.heap (W.add a) a o'):R B (W.add a) (hp++[o']) s':=by
 have d:=r.dead hf
 have at_: ∀{n:Nat} {b},(W.add a).own[n]? =some b→W.own[n]? =some b∧n<hp.length∨n=hp.length∧b=a:=fun{n b} h=>by
  by_cases hm:n<W.own.length
  ·exact .inl ⟨(ba hm).symm.trans h,r.len▸hm⟩
  ·have q:=Av ((bA (bY.mp hm)).symm.trans h)
   exact .inr ⟨r.len▸cK (Nat.sub_eq_zero_iff_le.mp q.1) (bY.mp hm),q.2⟩
 refine r.step (fun M=>False) (fun M h=>h.elim) (fun a o M=>x.keep a o) x.gens x.os (fun M M e=>e) (fun M M=> .inl) (by show(W.own++[a]).length=_;rw[ak,ak,r.len];rfl)
  (List.nodup_append.mpr ⟨r.nodup,List.pairwise_singleton ..,fun k h b q e=>d.1 (az.mp q▸e▸h)⟩) (fun k m=>(cJ.mp m).elim (r.tab k) fun m=>az.mp m▸d.2.2) (fun m b h=> ?_) (fun m b o h1 h2=> ?_) rfl r.frF (fun M M h=>h.elim) fun m b h1 h2=>(at_ h1).elim (fun z=>by rw[ba z.2];exact r.frO m b z.1 h2) fun z=>absurd rfl ((r.frs b h2).1.alive.elim fun M e=>z.2▸ez e (z.2▸hf))
 ·exact(at_ h).elim (fun z=>by rw[ba z.2];exact r.off m b z.1) fun z=> .inl (z.2▸d.2.1)
 ·refine(at_ h1).elim (fun z=> ?_) fun z=> ?_
  ·rw[ba z.2]at h2
   have q:=r.objs m b o z.1 h2
   exact q.tr .add (x.same q.alive)
  ·rw[z.1,List.getElem?_concat_length]at h2
   exact af h2▸z.2▸hO
end
noncomputable def iA(f:Nat→Option Nat):V→Option V
 | .own n=>(f n).map .own
 | .tc a r=>(iA f a).bind fun a=>(iA f r).map (.tc a)
 | .meth g s=>(iA f s).map (.meth g)
 |v=>some v
noncomputable def MH(f:Nat→Option Nat):Option Nat→Option (Option Nat)
 |none=>some none
 |some k=>(f k).map some
noncomputable def rV{α β γ:Type}(g:α→Option β):List (γ×α)→Option (List (γ×β))
 |[]=>some []
 |p::r=>(g p.2).bind fun n=>(rV g r).map ((p.1,n):: ·)
noncomputable def Bx(f:Nat→Option Nat):AO→Option AO
 | .cell v=>(iA f v).map .cell
 | .inst C lk=>(f lk).map (.inst C)
 | .fn t cs lk=>(rV f cs).bind fun cs=>(MH f lk).map (.fn t cs)
 | .attrs l=>(rV (iA f) l).map .attrs
 | .loc l=>(rV (iA f) l).map .loc
 | .calls g s e=>(iA f g).bind fun g=>(iA f s).map fun s=> .calls g s e
 |o=>some o
noncomputable def sK(f:Nat→Option Nat)(hp:Hp):List Nat→Option Hp
 |[]=>some []
 |n::r=>hp[n]?.bind fun o=>(Bx f o).bind fun o=>(sK f hp r).map (o:: ·)
noncomputable def wv(f:Nat→Option Nat):Hp→Option Hp
 |[]=>some []
 |o::r=>(Bx f o).bind fun o=>(wv f r).map (o:: ·)
noncomputable def iF(n:Nat):List Nat→Nat→Option Nat
 |[],M=>none
 |m::r,k=>cond (aS n m) (some k) (iF n r (k+1))
noncomputable def nV:List Nat→Bool
 |[]=>true
 |n::r=>cond (r.contains n) false (nV r)
structure L5(f:Nat→Option Nat)(W W':Wd):Prop where
 own: ∀{n k:Nat} {a},f n=some k→W.own[n]? =some a→W'.own[k]? =some a
 F:W.F.le W'.F
section
variable{f:Nat→Option Nat}{W W':Wd}(x:L5 f W W')
include x
theorem V2.ren(u:V):(∀{v u'},(V2 W u).1 v→iA f u=some u'→(V2 W' u').1 v)∧∀{l u'},(V2 W u).2 l→iA f u=some u'→(V2 W' u').2 l:=by
 induction u with
 |own n=>exact⟨fun r h=>by
   refine kP h fun k hk z1z=> ?_
   obtain rfl:=z1z
   cases r with |mk a e=>exact .mk a (x.own hk e),fun r=>r.elim⟩
 |tc a r ia ir=>
  have key: ∀{l u'},fM (V2 W a).1 (V2 W r).2 l→iA f (.tc a r)=some u'→∃a' r',u'= .tc a' r'∧fM (V2 W' a').1 (V2 W' r').2 l:=fun q h=>by
   refine jD h fun a' h1 h=> ?_
   refine kP h fun r' h2 z1z=> ?_
   obtain rfl:=z1z
   exact⟨a',r',rfl,q.mono (fun M q=>ia.1 q h1) fun M q=>ir.2 q h2⟩
  refine⟨fun q h=> ?_,fun q h=> ?_⟩
  ·cases q with |mk b i n ho z q=>
    obtain⟨a',r',rfl,q⟩:=key q h
    exact .mk b i n (x.F _ _ ho) z q
  ·obtain⟨a',r',rfl,q⟩:=key q h
   exact q
 |meth g s ih=>exact⟨fun r h=>by
   refine kP h fun k hk z1z=> ?_
   obtain rfl:=z1z
   cases r with |mk a sv ho r=>exact .mk a sv (x.F _ _ ho) (ih.1 r hk),fun r=>r.elim⟩
 |t0=>exact⟨fun r h=>af h▸eD.mono x.F r fun M r=>r,fun r h=>af h▸r⟩
 |lst t l=>exact⟨fun r h=>af h▸eD.mono x.F r fun M r=>r.mono fun M M r=>r.mono x.F,fun r=>r.elim⟩
 |rng=>exact⟨fun r h=>af h▸by cases r with |mk r t u w ho=>exact .mk r t u w (x.F _ _ ho),fun r=>r.elim⟩
 |_=>exact⟨fun r h=>af h▸r,fun r h=>af h▸r⟩
theorem a7.ren{va:Value}{u u':V}(r:a7 W va u)(h:iA f u=some u'):a7 W' va u':=(V2.ren x u).1 r h
theorem rG.ren{va:Option Value}{u u':V}(r:rG W va u)(h:iA f u=some u'):rG W' va u':=
 r.imp (fun(e:u= .unb)=>(af (e▸h:iA f .unb=some u')).symm) fun r=>r.imp fun M r=>⟨r.1,r.2.ren x h⟩
theorem zD.ren{d:Option aB}{lk lk':Option Nat}(r:zD W d lk)(h:MH f lk=some lk'):zD W' d lk':=by
 induction lk using aw with
 |none=>exact af h▸r
 |some k=>
  refine kP h fun k' hk z1z=> ?_
  obtain rfl:=z1z
  exact r.imp fun M r=>⟨r.1,x.own hk r.2⟩
theorem jh.ren{l:List (Str×aB)}{t:List (Str×Nat)}(r:jh W l t): ∀{t'},rV f t=some t'→jh W' l t':=by
 induction r with
 |nil=>exact fun h=>af h▸ .nil
 |cons a _ ih=>
  intro t' h
  refine jD h fun k h1 h=> ?_
  refine kP h fun r' h2 z1z=> ?_
  obtain rfl:=z1z
  exact .cons ⟨a.1,x.own h1 a.2⟩ (ih h2)
omit x in
theorem oO{l l':List (Str×V)}(h:rV (iA f) l=some l')(y:Str):(l.lookup y=none∧l'.lookup y=none)∨∃u u',l.lookup y=some u∧l'.lookup y=some u'∧iA f u=some u':=by
 induction l generalizing l' with
 |nil=>exact af h▸ .inl ⟨rfl,rfl⟩
 |cons p l ih=>
  refine jD h fun u h1 h=> ?_
  refine kP h fun r h2 z1z=> ?_
  obtain rfl:=z1z
  rw[cz,cz]
  cases y==p.1
  ·exact ih h2
  ·exact .inr ⟨_,_,rfl,rfl,h1⟩
theorem kM.ren{B:bW}{h:dq}{a:aB}{o o':AO}(r:kM B h W a o)(q:Bx f o=some o'):kM B h W' a o':=by
 cases o with
 |list t l=>exact af q▸by cases r with |mk i n ho z r=>exact .mk i n ho z (r.mono fun M M r=>r.mono x.F)
 |cell v=>
  refine kP q fun v' q1 z1z=> ?_
  obtain rfl:=z1z
  cases r with |mk i ho r=>exact .mk i ho (r.ren x q1)
 |inst C lk=>
  refine kP q fun v' q1 z1z=> ?_
  obtain rfl:=z1z
  cases r with |mk o d ho hc hd e r=>exact .mk o d ho hc hd e (x.own q1 r)
 |fn tag cs lk=>
  refine jD q fun cs' q1 q=> ?_
  refine kP q fun lk' q2 z1z=> ?_
  obtain rfl:=z1z
  cases r with |mk fc fd od sl hf ok code cl ho r=>exact .mk fc fd od sl hf ok (code.mono x.F) (cl.ren x q1) ho (r.ren x q2)
 |attrs l=>
  refine kP q fun l' q1 z1z=> ?_
  obtain rfl:=z1z
  cases r with |mk m n ex r=>exact .mk m n ex fun y=>(oO q1 y).elim (fun z=>by rw[z.2];exact(z.1▸r y:jl W (m y) none)) fun⟨u,u',e1,e2,e3⟩=>e2▸((e1▸r y:jl W (m y) (some u)).imp fun M r=>⟨r.1,r.2.ren x e3⟩:jl W' (m y) (some u'))
 |loc l=>
  refine kP q fun l' q1 z1z=> ?_
  obtain rfl:=z1z
  cases r with |mk m n r=>exact .mk m n fun y w e=>(oO q1 y).elim (fun z=>nomatch z.2.symm.trans e) fun⟨u,u',e1,e2,e3⟩=>(r y u e1).ren x (af (e2.symm.trans e)▸e3)
 |calls g s e=>
  refine jD q fun g' q1 q=> ?_
  refine kP q fun s' q2 z1z=> ?_
  obtain rfl:=z1z
  cases r with |mk fv sv ho r1 r2=>exact .mk fv sv ho (r1.ren x q1) (r2.ren x q2)
 |dead=>exact af q▸r
end
noncomputable def Wd.sub(W:Wd)(J:List Nat):Wd:=⟨J.filterMap (W.own[·]?),W.F,W.frs⟩
theorem Do{n k:Nat}{J:List Nat}{i:Nat}(h:iF n J i=some k): ∃j,k=i+j∧J[j]? =some n:=by
 induction J generalizing i with
 |nil=>injection h
 |cons m r ih=>
  replace h:cond (aS n m) (some i) (iF n r (i+1))=some k:=h
  rcases e:aS n m with _|_<;>rw[e]at h
  ·obtain⟨j,h1,h2⟩:=ih h
   exact⟨j+1,h1.trans (Nat.succ_add i j),h2⟩
  ·exact⟨0,(af h).symm,congrArg some (aV e).symm⟩
theorem nU{J:List Nat}(h:nV J=true):J.Nodup:=by
 induction J with
 |nil=>exact .nil
 |cons n r ih=>
  replace h:cond (r.contains n) false (nV r)=true:=h
  rcases e:r.contains n with _|_<;>rw[e]at h
  ·exact List.nodup_cons.mpr ⟨fun m=>bh (e.symm.trans (cO.mpr m)),ih h⟩
  ·injection h
section
variable{B:bW}{W W' W0 W1 W2:Wd}{hp hp' hp1 hp2:Hp}{s s' s0:ag}{f:Nat→Option Nat}{J:List Nat}
theorem lL(h: ∀n∈J,n<W.own.length)(i:Nat):(W.sub J).own[i]? =J[i]?.bind (W.own[·]?):=by
 show(J.filterMap (W.own[·]?))[i]? =_
 induction J generalizing i with
 |nil=>rfl
 |cons n r ih=>
  have e:W.own[n]? =some (W.own[n]'(h n (.head _))):=aR _
  rw[List.filterMap_cons,e]
  induction i using Nat.casesOn with
  |zero=>exact e.symm
  |succ i=>exact ih (fun n m=>h n (.tail _ m)) i
theorem zW(h: ∀n∈J,n<W.own.length):(W.sub J).own.length=J.length:=by
 show(J.filterMap _).length=_
 induction J with
 |nil=>rfl
 |cons n t ih=>rw[List.filterMap_cons,aR (h n (.head _))];exact congrArg (· +1) (ih fun n m=>h n (.tail _ m))
theorem qh(h:sK f hp J=some hp1):hp1.length=J.length∧(∀n∈J,n<hp.length)∧∀{i:Nat} {o},hp1[i]? =some o→∃n o',J[i]? =some n∧hp[n]? =some o'∧Bx f o'=some o:=by
 induction J generalizing hp1 with
 |nil=>exact af h▸⟨rfl,m9,j5⟩
 |cons n r ih=>
  refine jD h fun o h1 h=> ?_
  refine jD h fun o' h2 h=> ?_
  refine kP h fun r' h3 z1z=> ?_
  obtain rfl:=z1z
  obtain⟨k1,k2,k3⟩:=ih h3
  refine⟨congrArg (· +1) k1,fun m hm=>(aX.mp hm).elim (fun e=>e▸(au.mp h1).1) (k2 m),fun{i p} e=> ?_⟩
  induction i using Nat.casesOn with
  |zero=>obtain rfl:=af e;exact⟨n,o,rfl,h1,h2⟩
  |succ i=>exact k3 e
theorem m6(h: ∀n∈J,n<W.own.length):L5 (fun n=>iF n J 0) W (W.sub J):=
 ⟨fun{n k a} e ha=>by
  obtain⟨j,h1,h2⟩:=Do e
  rw[lL h,h1,cF,h2];exact ha,fun M M e=>e⟩
theorem jq(h: ∀n∈J,n<W.own.length){a:aB}(m:a∈(W.sub J).own): ∃i n:Nat,(W.sub J).own[i]? =some a∧J[i]? =some n∧W.own[n]? =some a:=by
 refine(List.getElem?_of_mem m).elim fun i e=> ?_
 have e':=e
 rw[lL h]at e'
 refine jD e' fun n e1 e2=> ?_
 exact⟨i,n,e,e1,e2⟩
theorem wu{l:List (Str×V)}{o:AO}(h:Bx f (.loc l)=some o): ∃l',o= .loc l':=by
 refine kP h fun l' M e=> ?_
 exact⟨l',e.symm⟩
theorem R.part(r:R B W hp s)(h:sK (fun n=>iF n J 0) hp J=some hp1)(nd:J.Nodup):R B (W.sub J) hp1 s:=by
 refine(qh h).elim fun k1 zz=>zz.elim fun k4 k3=> ?_
 have k2: ∀n∈J,n<W.own.length:=fun n m=>r.len▸k4 n m
 have at_: ∀{i:Nat} {a},(W.sub J).own[i]? =some a→∃n:Nat,J[i]? =some n∧W.own[n]? =some a:=fun{i a} e=>by
  rw[lL k2]at e
  exact Option.bind_eq_some_iff.mp e
 refine⟨r.sub,r.base,?_,?_,fun a m=> ?_,fun i a e=> ?_,fun i a o e1 e2=> ?_,r.tabs,r.gens,r.os,r.frs,fun i a e m=> ?_⟩
 ·rw[k1,zW k2]
 ·exact List.Pairwise.filterMap _ (fun n m ne a e1 b e2 (q:a=b)=>ne ((List.getElem?_inj (au.mp e1).1 r.nodup).mp (e1.trans (q▸e2.symm)))) nd
 ·refine(jq k2 m).elim fun i zz=>zz.elim fun n zz=>zz.elim fun M zz=>zz.elim fun M e=> ?_
  exact r.tab a (c8 e)
 ·obtain⟨n,e1,e2⟩:=at_ e
  refine(r.off n a e2).imp id fun d=> ?_
  obtain⟨n',o',q1,q2,q3⟩:=k3 (aR (k1▸(au.mp e1).1))
  obtain rfl:=af (q1.symm.trans e1)
  obtain rfl:=af (q2.symm.trans d)
  exact(aR _).trans q3.symm
 ·obtain⟨n,q1,q2⟩:=at_ e1
  refine(k3 e2).elim fun n' zz=>zz.elim fun o' zz=>zz.elim fun q3 zz=>zz.elim fun q4 q5=> ?_
  obtain rfl:=af (q3.symm.trans q1)
  exact(r.objs _ _ _ q2 q4).ren (m6 k2) q5
 ·obtain⟨n,q1,q2⟩:=at_ e
  refine(r.frO n a q2 m).elim fun l hl=> ?_
  obtain⟨n',o',q3,q4,q5⟩:=k3 (aR (k1▸(au.mp q1).1))
  obtain rfl:=af (q3.symm.trans q1)
  obtain rfl:=af (q4.symm.trans hl)
  exact(wu q5).imp fun l e=>(aR _).trans (congrArg some e)
theorem Le.part(x:Le B W0 s0 W s)(h: ∀n∈J,n<W.own.length)(hk: ∀n,n<W0.own.length→J[n]? =some n):Le B W0 s0 (W.sub J) s:=
 ⟨⟨fun n a e=>by
  rw[lL h,hk n (au.mp e).1];exact x.own n a e,x.F⟩,x.frs,fun a m=>(jq h m).elim fun M r=>r.elim fun M r=>x.newO a (c8 r.2.2),x.newF,x.keep,x.frk,x.live,x.gens⟩
noncomputable def FL:List Nat→Hp→Hp→Hp
 |[],hp,M=>hp
 |n::r,hp,os=>match os with
  |o::os=>FL r (hp.set n o) os
  |[]=>hp
noncomputable def pa(J:List Nat)(N m:Nat):Option Nat:=match J[m]? with
 |some n=>some n
 |none=>some (N+(m-J.length))
theorem g8{os:Hp}:(FL J hp os).length=hp.length:=by
 induction J generalizing hp os with
 |nil=>rfl
 |cons n r ih=>induction os using aO with
  |nil=>rfl
  |cons o os=>exact ih.trans List.length_set
theorem uC{os:Hp}{n:Nat}{o:AO}(h:(FL J hp os)[n]? =some o)(hl:J.length≤os.length):(∃i:Nat,J[i]? =some n∧os[i]? =some o)∨n ∉ J∧hp[n]? =some o:=by
 induction J generalizing hp os with
 |nil=>exact .inr ⟨nofun,h⟩
 |cons m r ih=>induction os using aO with
  |nil=>cases hl
  |cons o' os=>
   refine(ih h (Nat.le_of_succ_le_succ hl)).elim (fun⟨i,h1,h2⟩=> .inl ⟨i+1,h1,h2⟩) fun⟨h1,h2⟩=> ?_
   by_cases q:m=n
   ·subst q
    rw[List.getElem?_set_self']at h2
    induction e:hp[m]? using aw with
    |none=>rw[e]at h2;injection h2
    |some _=>rw[e]at h2;exact .inl ⟨0,rfl,h2⟩
   ·rw[List.getElem?_set_ne q]at h2
    exact .inr ⟨fun m'=>(aX.mp m').elim (fun e=>q e.symm) h1,h2⟩
theorem Dh(h:wv f hp=some hp1):hp1.length=hp.length∧∀{i:Nat} {o},hp1[i]? =some o→∃o',hp[i]? =some o'∧Bx f o'=some o:=by
 induction hp generalizing hp1 with
 |nil=>exact af h▸⟨rfl,j5⟩
 |cons n r ih=>
  refine jD h fun o' h2 h=> ?_
  refine kP h fun r' h3 z1z=> ?_
  obtain rfl:=z1z
  obtain⟨k1,k3⟩:=ih h3
  refine⟨congrArg (· +1) k1,fun{i p} e=> ?_⟩
  induction i using Nat.casesOn with
  |zero=>obtain rfl:=af e;exact⟨n,rfl,h2⟩
  |succ i=>exact k3 e
noncomputable def Wd.back(W W2:Wd)(k:Nat):Wd:=⟨W.own++W2.own.drop k,W2.F,W2.frs⟩
theorem R.back(r:R B W hp s)(nd:J.Nodup)(hJ: ∀n∈J,n<W.own.length)(x:Le B (W.sub J) s W2 s')(r2:R B W2 hp1 s')(h:wv (pa J hp.length) hp1=some hp2):
  R B (W.back W2 J.length) (FL J hp (hp2.take J.length)++hp2.drop J.length) s'∧Le B W s (W.back W2 J.length) s'∧L5 (pa J hp.length) W2 (W.back W2 J.length):=by
 refine(Dh h).elim fun k1 k2=> ?_
 have hlen:=zW hJ
 have low: ∀{i:Nat},i<J.length→W2.own[i]? =J[i]?.bind (W.own[·]?):=fun{i} hi=>by
  have e:(W.sub J).own[i]? =some (W.sub J).own[i]:=aR (hlen▸hi)
  rw[x.own i _ e,←e,lL hJ]
 have l2:J.length≤W2.own.length:=Nat.le_of_not_lt fun hl=>by
  have e:(W.sub J).own[W2.own.length]? =some (W.sub J).own[W2.own.length]:=aR (hlen▸hl)
  exact absurd (au.mp (x.own _ _ e)).1 (Nat.lt_irrefl _)
 have new: ∀{a},a∈W2.own.drop J.length→s.heap.get? a=none:=fun{a} m=>by
  refine(List.getElem?_of_mem m).elim fun j e=> ?_
  rw[List.getElem?_drop]at e
  refine(x.newO a (c8 e)).elim (fun m'=> ?_) id
  refine(jq hJ m').elim fun i zz=>zz.elim fun n zz=>zz.elim fun q1 zz=>zz.elim fun q2 q3=> ?_
  have e1:=(List.getElem?_inj (au.mp e).1 r2.nodup).mp (e.trans (x.own i a q1).symm)
  exact absurd (ad (aG _ _) (aC e1)) (Nat.not_le.mpr (au.mp q2).1)
 have tr:Tr W (W.back W2 J.length):=⟨fun n a e=>(ba (au.mp e).1).trans e,x.F⟩
 have le:Le B W s (W.back W2 J.length) s':=
  ⟨tr,x.frs,fun a m=>(cJ.mp m).imp id new,x.newF,fun a o e h1 h2=>x.keep a o e (fun m=>(jq hJ m).elim fun M r=>r.elim fun M r=>h1 (c8 r.2.2)) h2,fun L m h1=>x.frk L m fun m=>(jq hJ m).elim fun M r=>r.elim fun M r=>h1 (c8 r.2.2),x.live,x.gens⟩
 have ren:L5 (pa J hp.length) W2 (W.back W2 J.length):=⟨fun{n k a} e ha=>by
  unfold pa at e
  induction q:J[n]? using aw with
  |some m=>
   rw[q]at e;obtain rfl:=af e
   refine tr.own _ _ ?_
   rw[low (au.mp q).1,q]at ha
   exact ha
  |none=>
   rw[q]at e;obtain rfl:=af e
   have hn:=dY.mp q
   show(W.own++W2.own.drop J.length)[_]? =_
   rw[bA (by rw[r.len];exact aG ..),List.getElem?_drop,r.len,Nat.add_sub_cancel_left,Nat.add_sub_cancel' hn]
   exact ha,fun M M e=>e⟩
 have lk:(hp2.take J.length).length=J.length:=List.length_take_of_le (by rw[k1,←r2.len];exact l2)
 have at_: ∀{n:Nat} {a},(W.back W2 J.length).own[n]? =some a→W.own[n]? =some a∧n<hp.length∨∃i,n=hp.length+i∧W2.own[J.length+i]? =some a:=fun{n a} e=>by
  by_cases hn:n<W.own.length
  ·exact .inl ⟨(ba hn).symm.trans e,r.len▸hn⟩
  ·have hn:=bY.mp hn
   refine .inr ⟨n-hp.length,(Nat.add_sub_cancel' (r.len▸hn)).symm,?_⟩
   have:=(bA hn).symm.trans e
   rwa [List.getElem?_drop,r.len]at this
 have qO: ∀{i n:Nat} {a},J[i]? =some n→W.own[n]? =some a→W2.own[i]? =some a:=fun{i n a} q e=>by
  rw[low (au.mp q).1,q];exact e
 refine⟨⟨r2.sub,r2.base,?_,?_,fun a m=> ?_,fun n a e=> ?_,fun n a o e1 e2=> ?_,r2.tabs,r2.gens,r2.os,r2.frs,fun n a e m=> ?_⟩,le,ren⟩
 ·show(W.own++W2.own.drop J.length).length=_
  rw[ak,ak,g8,r.len,List.length_drop,List.length_drop,k1,r2.len]
 ·exact List.nodup_append.mpr ⟨r.nodup,r2.nodup.sublist (List.drop_sublist ..),fun a m b m' e=>(r.alive m).elim fun M q=>absurd rfl (ez q (e▸new m'))⟩
 ·exact(cJ.mp m).elim (r.tab a) fun m=>r2.tab a (List.mem_of_mem_drop m)
 ·refine(at_ e).elim (fun⟨e1,hl⟩=> ?_) fun⟨i,hn,e1⟩=> ?_
  ·rw[ba (by rw[g8];exact hl)]
   have eg:(FL J hp (hp2.take J.length))[n]? =some ((FL J hp (hp2.take J.length))[n]'(by rw[g8];exact hl)):=aR _
   refine(uC eg (aC lk.symm)).elim (fun⟨i,q1,q2⟩=> ?_) fun⟨q1,q2⟩=> ?_
   ·refine(r2.off i a (qO q1 e1)).imp id fun d=> ?_
    rw[List.getElem?_take_of_lt (au.mp q1).1]at q2
    obtain⟨o',q3,q4⟩:=k2 q2
    obtain rfl:=af (q3.symm.trans d)
    exact eg.trans q4.symm
   ·refine(r.off n a e1).imp (fun z=> ?_) fun d=>eg.trans (q2.symm.trans d)
    induction w:W2.F a using aw with
    |none=>exact w
    |some o=>exact(x.newF a o w).elim (fun w=>nomatch w.symm.trans z) fun w=>(r.alive (c8 e1)).elim fun M q=>absurd rfl (ez q w)
  ·subst hn
   rw[bA (by rw[g8];exact aG ..),g8,Nat.add_sub_cancel_left,List.getElem?_drop]
   refine(r2.off _ a e1).imp id fun d=> ?_
   have eg:hp2[J.length+i]? =some (hp2[J.length+i]'(by rw[k1,←r2.len];exact(au.mp e1).1)):=aR _
   obtain⟨o',q3,q4⟩:=k2 eg
   obtain rfl:=af (q3.symm.trans d)
   exact eg.trans q4.symm
 ·refine(at_ e1).elim (fun⟨e1,hl⟩=> ?_) fun⟨i,hn,e3⟩=> ?_
  ·rw[ba (by rw[g8];exact hl)]at e2
   refine(uC e2 (aC lk.symm)).elim (fun⟨i,q1,q2⟩=> ?_) fun⟨q1,q2⟩=> ?_
   ·rw[List.getElem?_take_of_lt (au.mp q1).1]at q2
    obtain⟨o',q3,q4⟩:=k2 q2
    exact(r2.objs i a o' (qO q1 e1) q3).ren ren q4
   ·have q:=r.objs n a o e1 q2
    have na:a ∉ (W.sub J).own:=fun m=>by
     refine(jq hJ m).elim fun i zz=>zz.elim fun n' zz=>zz.elim fun w1 zz=>zz.elim fun w2 w3=> ?_
     have:=(List.getElem?_inj (au.mp e1).1 r.nodup).mp (e1.trans w3.symm)
     exact q1 (this▸List.mem_of_getElem? w2)
    by_cases m:a∈W.frs
    ·obtain⟨l,hl⟩:=r.frO n a e1 m
     obtain rfl:=af (q2.symm.trans hl)
     exact jH.slot tr (x.frk a m na) q
    ·exact q.tr tr (q.alive.elim fun ob w=>(x.keep a ob w na (r.tab a (c8 e1)) m).trans w.symm)
  ·subst hn
   rw[bA (by rw[g8];exact aG ..),g8,Nat.add_sub_cancel_left,List.getElem?_drop]at e2
   obtain⟨o',q3,q4⟩:=k2 e2
   exact(r2.objs _ a o' e3 q3).ren ren q4
 ·have m1:a∈W.frs:=x.frs▸m
  refine(at_ e).elim (fun⟨e1,hl⟩=> ?_) fun⟨i,hn,e3⟩=> ?_
  ·rw[ba (by rw[g8];exact hl)]
   have eg:(FL J hp (hp2.take J.length))[n]? =some ((FL J hp (hp2.take J.length))[n]'(by rw[g8];exact hl)):=aR _
   refine(uC eg (aC lk.symm)).elim (fun⟨i,q1,q2⟩=> ?_) fun⟨q1,q2⟩=> ?_
   ·rw[List.getElem?_take_of_lt (au.mp q1).1]at q2
    obtain⟨o',q3,q4⟩:=k2 q2
    obtain⟨l,hl⟩:=r2.frO i a (qO q1 e1) m
    obtain rfl:=af (q3.symm.trans hl)
    exact(wu q4).imp fun l z=>eg.trans (congrArg some z)
   ·exact(r.frO n a e1 m1).imp fun l z=>eg.trans (q2.symm.trans z)
  ·exact(r.frs a m1).1.alive.elim fun M w=>absurd rfl (ez w (new (List.mem_of_getElem? (by rw[List.getElem?_drop];exact e3))))
end
structure Fn where
 code:eB
 binds:List (Nat×List Str×List (Str×(Nat ⊕ V)))
 frz:Bool
 mks:Bool
structure fS where
 glob:Str→Option V
 fn:aB→Option Fn
 code:Nat→Option eB
 init:aB→Option aB
 meth:aB→Str→Option aB
 dat:aB→Str→Bool
 free:Str→Bool
 tag:Pos→Option Nat
 own:Pos→Bool
 typ:Pos→Ty
 gen:aB→Bool
 pat:aB→Option (List Nat→Bool×Bool)
structure Cx where
 names:List (Str×NameKind)
 cells:List (Str×Nat)
 fr:Nat
 mks:Bool
noncomputable def zd:Const→Option V
 | .none=>some .none
 | .bool b=>some (.bool b)
 | .int i=>some (.int i)
 | .str s=>cond (bz s.cps.toList.length bS) (some (.str s.cps.toList)) none
 |M=>none
noncomputable def vg:V→Option V
 | .unb=>none
 |v=>some v
noncomputable def Ja:AO→Option V
 | .cell v=>vg v
 |M=>none
noncomputable def OZ(x:Str):AO→Option V
 | .loc l=>(l.lookup x).bind vg
 |M=>none
noncomputable def lg(G:fS)(Γ:Cx)(hp:Hp)(x:Str):Option V:=(Γ.names.lookup x).bind fun k=>match k with
 | .local=>hp[Γ.fr]?.bind (OZ x)
 | .cell| .free=>(Γ.cells.lookup x).bind fun n=>hp[n]?.bind Ja
 | .globalImplicit| .globalExplicit=>G.glob x
noncomputable def jd(x:Str)(o:Option V):Option V:=cond (x==ae "__debug__") (some (.bool true)) o
def Aj(f:(t:Ty)→List (den t)→Prop):Option AO→Prop
 |some o=>match o with
  | .list t l=>f t l
  |M=>False
 |none=>False
def kj(hp:Hp)(v:V)(f:(t:Ty)→List (den t)→Prop):Prop:=match v with
 | .lst t l=>f t l
 | .own n=>Aj f hp[n]?
 |M=>False
def jn(u:Ty)(hp:Hp)(v:V)(f:List (den u)→Prop):Prop:=kj hp v fun t l=>fN (ma t u l) f
noncomputable def CK:Option AO→Option Bool
 |some o=>match o with
  | .list M l=>some (!l.isEmpty)
  |M=>none
 |none=>none
noncomputable def yb(hp:Hp):V→Option Bool
 | .none=>some false
 | .bool b=>some b
 | .int i=>some (i !=0)
 | .str s=>some (!s.isEmpty)
 | .lst M l=>some (!l.isEmpty)
 | .own n=>CK hp[n]?
 |M=>none
def aH(i:Int):Prop:=i.natAbs<2^62
def Od(op:Operator)(a b:Int)(K:Int→Prop):Prop:=match op with
 | .Add=>K (a+b)
 | .Sub=>K (a-b)
 | .Mult=>(aH a∧aH b)∧K (a*b)
 | .FloorDiv=>(b≠0∧aH a∧b.natAbs<2^30)∧K (a.fdiv b)
 | .Mod=>b≠0∧K (a.fmod b)
 | .Pow=>(0≤b∧b≤1000∧aH a)∧K (a^b.toNat)
 | .LShift=>(0≤b∧b≤1000∧aH a)∧K (a*2^b.toNat)
 | .RShift=>0≤b∧K (a.fdiv (2^b.toNat))
 | .BitAnd=>K (Builtin.bitAnd a b)
 | .BitOr=>K (Builtin.bitOr a b)
 | .BitXor=>K (Builtin.bitXor a b)
 |M=>False
def kD(own:Bool)(t:Ty)(l:List (den t))(hp:Hp)(K:V→Hp→Prop):Prop:=
 l.length≤bS∧cond own (K (.own hp.length) (hp++[.list t l])) (K (.lst t l) hp)
noncomputable def tn:Operator→Bool
 | .Add=>true
 |M=>false
noncomputable def yU:Operator→Bool
 | .Mult=>true
 |M=>false
def H3(own:Bool)(op:Operator)(b:V)(hp:Hp)(K:V→Hp→Prop)(t:Ty)(l:List (den t)):Prop:=match b with
 | .int n=>cond (yU op) ((aH n∧l.length*n.toNat≤bS)∧kD own t (cH n.toNat l).flatten hp K) False
 |b=>cond (tn op) (jn t hp b fun l'=>kD own t (l++l') hp K) False
def Oc(own:Bool)(op:Operator)(a b:V)(hp:Hp)(K:V→Hp→Prop):Prop:=match a with
 | .int a=>ly b fun b=>Od op a b fun r=>K (.int r) hp
 | .str a=>match b with
  | .int n=>iE a fun c=>cond (yU op) ((aH n∧n.toNat≤bS)∧K (.str (cH n.toNat c)) hp) False
  |b=>gU b fun b=>cond (tn op) ((a++b).length≤bS∧K (.str (a++b)) hp) False
 |a=>kj hp a fun t l=>H3 own op b hp K t l
def PQ(op:UnaryOp)(a:V)(hp:Hp)(K:V→Hp→Prop):Prop:=match op with
 | .USub=>ly a fun a=>K (.int (-a)) hp
 | .Invert=>ly a fun a=>K (.int (bg a)) hp
 | .Not=>fN (yb hp a) fun b=>K (.bool (!b)) hp
 |M=>False
noncomputable def kH:(t:Ty)→den t→PyData×List PyData
 | .int,i=>(.int i,[])
 | .str,s=>(.str ⟨s.toArray⟩,[])
 | .bool,b=>(.bool b,[])
 | .one a,d=>(.tuple [(kH a d).1],[(kH a d).1])
 | .cons a b,d=>(.tuple ((kH a d.1).1::(kH b d.2).2),(kH a d.1).1::(kH b d.2).2)
 | .list t,l=>(.list (l.map fun d=>(kH t d).1),[])
 | .alt a b,d=>Sum.elim (kH a) (kH b) d
noncomputable def dat(t:Ty)(d:den t):PyData:=(kH t d).1
noncomputable def NW:AO→Option PyData
 | .list t l=>some (dat (.list t) l)
 |M=>none
noncomputable def o1(hp:Hp):V→Option (PyData×List PyData)
 | .int i=>some (.int i,[])
 | .str s=>some (.str ⟨s.toArray⟩,[])
 | .bool b=>some (.bool b,[])
 | .none=>some (.none,[])
 | .t0=>some (.tuple [],[])
 | .tc a r=>(o1 hp a).bind fun x=>(o1 hp r).map fun y=>(.tuple (x.1::y.2),x.1::y.2)
 | .lst t l=>some (dat (.list t) l,[])
 | .own n=>(hp[n]?.bind NW).map fun d=>(d,[])
 |M=>none
def E4(hp:Hp)(a b:V)(K:Bool→Prop):Prop:=match a with
 | .int x=>ly b fun y=>K (x==y)
 | .str x=>gU b fun y=>K (x==y)
 |a=>fN (o1 hp a) fun x=>fN (o1 hp b) fun y=>(bc x.1=true∧bc y.1=true)∧K (PyData.eqv x.1 y.1)
def xu(a b:V)(K:Int→Int→Prop):Prop:=ly a fun x=>ly b fun y=>K x y
noncomputable def D3:V→Option (List Int)
 | .t0=>some []
 | .tc a r=>match a with
  | .int i=>(D3 r).map (i:: ·)
  |M=>none
 |M=>none
def E3(hp:Hp)(a b:V)(K:Bool→Prop):Prop:=match a with
 | .int x=>match b with
  | .tc a r=>fN (D3 (.tc a r)) fun l=>K (l.contains x)
  | .rng lo hi st=>K (Builtin.Range.rangePlace? lo hi st x).isSome
  |b=>jn .int hp b fun l=>K (l.contains x)
 |a=>gU a fun x=>iE x fun c=>gU b fun s=>K (s.contains c)
def Mc(v:V)(f:Value→Prop):Prop:=match v with
 | .val b=>f b
 |M=>False
def Jw(v:Value)(f:String→Prop):Prop:=match v with
 | .type T=>f T
 |M=>False
def IH(v:V)(K:Bool→Prop):Prop:=match v with
 | .none=>K true
 | .str _| .int _| .own _| .tc M Δ=>K false
 |M=>False
def AN(a b:V)(K:Bool→Prop):Prop:=match b with
 | .none=>IH a K
 | .bool y=>AT a fun x=>K (x==y)
 | .val y=>Jw y fun y=>Mc a fun x=>Jw x fun x=>K (x==y)
 |M=>False
def E1(op:CmpOp)(a b:V)(hp:Hp)(K:Bool→Prop):Prop:=match op with
 | .Lt=>xu a b fun x y=>K (decide (x<y))
 | .LtE=>xu a b fun x y=>K (decide (x≤y))
 | .Gt=>xu a b fun x y=>K (decide (x>y))
 | .GtE=>xu a b fun x y=>K (decide (x≥y))
 | .Eq=>E4 hp a b K
 | .NotEq=>E4 hp a b fun c=>K (!c)
 | .In=>E3 hp a b K
 | .NotIn=>E3 hp a b fun c=>K (!c)
 | .Is=>AN a b K
 | .IsNot=>AN a b fun c=>K (!c)
noncomputable def eQ(n:Nat)(i:Int):Option Nat:=seqIndex? i n
noncomputable def nu:(t:Ty)→den t
 | .int=>(0:Int)
 | .str=>([]:List Nat)
 | .bool=>false
 | .one a=>nu a
 | .cons a b=>(nu a,nu b)
 | .list M=>[]
 | .alt a M=> .inl (nu a)
noncomputable def getD{α:Type}(l:List α)(i:Int)(d:α):α:=((eQ l.length i).bind (l[·]?)).getD d
def fy(n:Nat)(i:Int):Prop:=(eQ n i).isSome=true
def Hk(t:Ty)(l:List (den t))(i:Int)(K:V→Prop):Prop:=fy l.length i∧K (emb t (getD l i (nu t)))
noncomputable def items:V→List V
 | .tc a r=>a::items r
 |M=>[]
noncomputable def Jf:V→Option Ty
 | .tc a r=>match a with
  | .int M=>cond ((items r).all fun v=>match v with
   | .int M=>true
   |M=>false) (some .int) none
  | .str M=>cond ((items r).all fun v=>match v with
   | .str M=>true
   |M=>false) (some .str) none
  |M=>none
 |M=>none
def KT(v:V)(i:Int)(K:V→Prop):Prop:=match Jf v with
 |some t=>Ow t (items v) fun l=>Hk t l i K
 |none=>fN ((eQ (items v).length i).bind ((items v)[·]?)) K
def KU(i:Int)(K:V→Prop):Option AO→Prop
 |some o=>match o with
  | .list t l=>Hk t l i K
  |M=>False
 |none=>False
def O9(a:V)(i:Int)(hp:Hp)(K:V→Prop):Prop:=match a with
 | .str s=>fy s.length i∧K (.str [getD s i 0])
 | .tc a r=>KT (.tc a r) i K
 | .lst t l=>Hk t l i K
 | .own n=>KU i K hp[n]?
 |M=>False
def KS(a i:V)(hp:Hp)(K:V→Prop):Prop:=ly i fun i=>O9 a i hp K
noncomputable def bound(n:Nat)(d:Nat):V→Option Nat
 | .none=>some d
 | .int i=>some (clipAt n i)
 |M=>none
noncomputable def jG{α:Type}(l:List α)(i j:Nat):List α:=(l.drop i).take (j-i)
def rj(n:Nat)(l u:V)(K:Nat→Nat→Prop):Prop:=fN (bound n 0 l) fun i=>fN (bound n n u) fun j=>K i j
def C5(own:Bool)(a l u:V)(hp:Hp)(K:V→Hp→Prop):Prop:=match a with
 | .str s=>rj s.length l u fun i j=>K (.str (jG s i j)) hp
 |a=>kj hp a fun t x=>rj x.length l u fun i j=>kD own t (jG x i j) hp K
noncomputable def eR(a c:Int):Nat→List Int
 |0=>[]
 |n+1=>a::eR (a+c) c n
noncomputable def fk(a b c:Int):Nat:=(bZ a b c).toNat
def PU(o:AO)(f:(t:Ty)→List (den t)→Prop):Prop:=match o with
 | .list t l=>f t l
 |M=>False
def Bl(hp:Hp)(v:V)(f:List V→(Hp→Prop→Prop)→Prop):Prop:=match v with
 | .tc a r=>f (items (.tc a r)) fun M p=>p
 | .lst t l=>f (l.map (emb t)) fun M p=>p
 | .str s=>f (s.map fun c=> .str [c]) fun M p=>p
 | .rng a b c=>aY a b c=true∧f ((eR a c (fk a b c)).map .int) fun M p=>p
 | .own n=>Aj (fun t l=>f (l.map (emb t)) fun hp' p=>hp'[n]? =some (.list t l)∧p) hp[n]?
 |M=>False
def Ko(f:List (Str×V)→Prop):Option AO→Prop
 |some o=>match o with
  | .loc l=>f l
  |M=>False
 |none=>False
def Jb(f:Prop):Option AO→Prop
 |some o=>match o with
  | .cell M=>f
  |M=>False
 |none=>False
def eM(Γ:Cx)(x:Str)(v:V)(hp:Hp)(K:Hp→Prop):Prop:=fN (Γ.names.lookup x) fun k=>match k with
 | .local=>Ko (fun l=>K (hp.set Γ.fr (.loc (m4 x v l)))) hp[Γ.fr]?
 | .cell=>fN (Γ.cells.lookup x) fun n=>Jb (K (hp.set n (.cell v))) hp[n]?
 |M=>False
noncomputable def ut:Expr→Option Str
 | .Name x M=>some x
 |M=>none
noncomputable def jY(Γ:Cx):List Expr→V→Hp→(Hp→Prop)→Prop
 |[],v,hp,K=>Oy v (K hp)
 |t::r,v,hp,K=>fN (ut t) fun x=>It v fun a b=>eM Γ x a hp fun hp=>jY Γ r b hp K
def iK(Γ:Cx)(t:Expr)(v:V)(hp:Hp)(K:Hp→Prop):Prop:=match t with
 | .Name x M=>eM Γ x v hp K
 | .Tuple ts M Δ=>jY Γ ts v hp K
 |M=>False
noncomputable def cu(names:List (Str×NameKind)):List Str:=names.filterMap fun x=>match x.2 with
 | .cell=>some x.1
 |M=>none
noncomputable def gq(names:List (Str×NameKind)):List (Str×V):=names.filterMap fun x=>match x.2 with
 | .local=>some (x.1,.unb)
 |M=>none
noncomputable def fI(n:Nat):List Str→List (Str×Nat)→List (Str×Nat)
 |[],acc=>acc
 |x::r,acc=>fI (n+1) r ((x,n)::acc)
noncomputable def eS(Γ:Cx):List (Str×NameKind)→List (Str×Nat)→Option (List (Str×Nat))
 |[],acc=>some acc
 |x::r,acc=>match x.2 with
  | .free=>(Γ.cells.lookup x.1).bind fun n=>eS Γ r ((x.1,n)::acc)
  |M=>eS Γ r acc
noncomputable def iR(i:Int):List Nat:=(toString i).toList.map Char.toNat
noncomputable def gC(sep:List Nat):List (List Nat)→List Nat
 |[]=>[]
 |x::r=>match r with
  |[]=>x
  |r=>x++sep++gC sep r
noncomputable def OE(a b:Int):Bool:=decide (a>b)
noncomputable def LT(a b:Int):Bool:=decide (a<b)
noncomputable def f7(c:Nat):Nat:=if 65≤c∧c≤90 then c+32 else c
noncomputable def Jt(c:Nat):Nat:=if 97≤c∧c≤122 then c-32 else c
def M2(hp:Hp)(v:V)(K:Nat→Prop):Prop:=match v with
 | .str s=>K s.length
 | .t0=>K 0
 | .tc a r=>K (items (.tc a r)).length
 |v=>kj hp v fun M l=>K l.length
def wN(v:V)(f:aB→V→Prop):Prop:=match v with
 | .meth g self=>f g self
 |M=>False
def Ci{α:Type}(args:List α)(P:α→α→Prop):Prop:=match args with
 |x::r=>iE r (P x)
 |[]=>False
def H4(f:Int→Int→Bool)(args:List V)(hp:Hp)(K:V→Hp→Prop):Prop:=Ci args fun a b=>xu a b fun a b=>K (.int (cond (f b a) b a)) hp
noncomputable def wK(l:List Int):Int:=(l[argBest (fun i j=>decide ((l[i]?).getD 0<(l[j]?).getD 0)) (l.length-1)]?).getD 0
def MU(args:List V)(hp:Hp)(K:V→Hp→Prop):Prop:=match args with
 |[]=>False
 |v::r=>match r with
  |[]=>jn .int hp v fun l=>0<l.length∧K (.int (wK l)) hp
  |b::r=>H4 LT (v::b::r) hp K
def Fd(id:String)(args:List V)(hp:Hp)(K:V→Hp→Prop):Prop:=
 cond (id=="len") (iE args fun v=>M2 hp v fun n=>K (.int n) hp)<|
 cond (id=="min") (MU args hp K)<|
 cond (id=="max") (H4 OE args hp K)<|
 cond (id=="sum") (iE args fun v=>jn .int hp v fun l=>(∀i∈l,i.natAbs<2^32)∧K (.int l.sum) hp)<|
 cond (id=="divmod") (Ci args fun a b=>xu a b fun a b=>(b≠0∧aH a∧b.natAbs<2^30)∧K (.tc (.int (a.fdiv b)) (.tc (.int (a.fmod b)) .t0)) hp)<|
 cond (id=="iter") (Ci args fun f v=>wN f fun g self=>gU v fun s=>K (.own hp.length) (hp++[.calls (.meth g self) (.str s) false]))<|
 cond (id=="chr") (iE args fun v=>ly v fun i=>(0≤i∧i≤0x10FFFF)∧K (.str [i.toNat]) hp)<|
 cond (id=="ord") (iE args fun v=>gU v fun x=>iE x fun c=>K (.int c) hp)<|
 cond (id=="abs") (iE args fun v=>ly v fun i=>K (.int (if i<0 then -i else i)) hp) False
def Ip(hp:Hp)(v:V)(K:Value→Prop):Prop:=match v with
 | .str M=>K (.type "str")
 | .int M=>K (.type "int")
 |v=>kj hp v fun M M=>K (.type "list")
def Dl(K:V→Prop)(args:List V):Prop:=match args with
 |a::r=>match r with
  |[]=>ly a fun b=>aH b∧K (.rng 0 b 1)
  |b::r=>xu a b fun a b=>match r with
   |[]=>(aH a∧aH b)∧K (.rng a b 1)
   |c::r=>iu r (ly c fun c=>(aH a∧aH b∧c.natAbs<2^30∧c≠0)∧K (.rng a b c))
 |[]=>False
noncomputable def BL(x:Int):List Int→List Int
 |[]=>[x]
 |y::r=>cond (decide (y≤x)) (x::y::r) (y::BL x r)
noncomputable def mZ(l:List Int):List Int:=l.foldr BL []
noncomputable def Am(kw:List (Str×V)):Bool:=match kw with
 |[]=>false
 |p::r=>match p.2 with
  | .bool b=>b&&(p.1==ae "reverse"&&r.isEmpty)
  |M=>false
noncomputable abbrev F4:Ty:= .cons .int (.one .int)
def sN(own:Bool)(args:List V)(kw:List (Str×V))(hp:Hp)(K:V→Hp→Prop):Prop:=
 cond (Am kw) (iE args fun v=>jn .int hp v fun l=>l.length<64∧kD own .int (mZ l) hp K)
  (iu kw (iE args fun v=>jn F4 hp v fun l=>l.length<64∧∃l':List (Int×Int),(l'.Perm l∧l'.Pairwise fun a b=>a.1<b.1)∧kD own F4 l' hp K))
def IQ(own:Bool)(v:V)(hp:Hp)(K:V→Hp→Prop):Prop:=match v with
 | .rng a b c=>aY a b c=true∧kD own .int (eR a c (fk a b c)) hp K
 |v=>gU v fun s=>kD own .str (s.map fun c=>[c]) hp K
def Jc(own:Bool)(T:String)(args:List V)(hp:Hp)(K:V→Hp→Prop):Prop:=
 cond (T=="range") (Dl (fun v=>K v hp) args)<|
 iE args fun v=>
 cond (T=="list") (IQ own v hp K)<|
 cond (T=="int") (gU v fun s=>((PySem.intText? ⟨s.toArray⟩).isSome=true∧s.length≤640)∧K (.int ((PySem.intText? ⟨s.toArray⟩).getD 0)) hp)<|
 cond (T=="str") (ly v fun i=>aH i∧K (.str (iR i)) hp)<|
 cond (T=="type") (Ip hp v fun t=>K (.val t) hp) False
noncomputable def qE(T:String)(name:Str):Option String:=
 (List.lookup (T,name) [(("str",ae "join"),"str.join"),(("str",ae "lower"),"str.lower"),(("str",ae "upper"),"str.upper"),(("str",ae "count"),"str.count"),(("int",ae "bit_length"),"int.bit_length"),
  (("list",ae "append"),"list.append"),(("list",ae "pop"),"list.pop"),(("list",ae "reverse"),"list.reverse")])
noncomputable def mP(c:Nat):List Nat→Int
 |[]=>0
 |x::r=>cond (aS x c) (1+mP c r) (mP c r)
def IK(id:String)(s:List Nat)(args:List V)(hp:Hp)(K:V→Hp→Prop):Prop:=
 cond (id=="str.join") (iE args fun w=>jn .str hp w fun l=>(gC s l).length≤bS∧K (.str (gC s l)) hp)<|
 cond (id=="str.lower") (iu args ((∀c∈s,c<128)∧K (.str (s.map f7)) hp))<|
 cond (id=="str.upper") (iu args ((∀c∈s,c<128)∧K (.str (s.map Jt)) hp))<|
 cond (id=="str.count") (iE args fun w=>gU w fun y=>iE y fun c=>K (.int (mP c s)) hp) False
def MJ(n:Nat)(t:Ty)(l:List (den t))(args:List V)(hp:Hp)(K:V→Hp→Prop):Prop:=match args with
 |[]=>False
 |x::r=>iu r (ly x fun i=>fy l.length i∧K (emb t (getD l i (nu t))) (hp.set n (.list t (l.eraseIdx ((eQ l.length i).getD 0)))))
def IL(id:String)(n:Nat)(t:Ty)(l:List (den t))(args:List V)(hp:Hp)(K:V→Hp→Prop):Prop:=
 cond (id=="list.append") (iE args fun x=>un t x fun d=>(l++[d]).length≤bS∧K .none (hp.set n (.list t (l++[d]))))<|
 cond (id=="list.pop") (MJ n t l args hp K)<|
 cond (id=="list.reverse") (iu args (K .none (hp.set n (.list t l.reverse)))) False
def wQ(id:String)(v:V)(args:List V)(hp:Hp)(K:V→Hp→Prop):Prop:=match v with
 | .str s=>IK id s args hp K
 | .int i=>cond (id=="int.bit_length") (iu args (aH i∧K (.int (aZ i)) hp)) False
 | .own n=>Aj (fun t l=>IL id n t l args hp K) hp[n]?
 |M=>False
noncomputable def uK(v:V):Bool:=match v with
 | .val v=>match v with
  | .builtin M=>false
  |M=>true
 |M=>true
noncomputable def zv:AO→Option (List (Str×V))
 | .attrs l=>some l
 |M=>none
noncomputable def nI(hp:Hp):Option Nat→Option (List (Str×V))
 |none=>some []
 |some k=>hp[k]?.bind zv
inductive fK where
 |fn (f:V) (first:List V)
 |meth (id:String)
 |pat (ok:List Nat→Bool×Bool)
noncomputable def HY(G:fS)(v:V)(name:Str)(hp:Hp):AO→Option fK
 | .inst C lk=>(nI hp (some lk)).bind fun l=>cond (l.lookup name).isNone ((G.meth C name).map fun f=> .fn (.val (.ref f)) [v]) none
 | .fn M Δ lk=>(nI hp lk).bind fun l=>(l.lookup name).bind fun f=>cond (G.free name) (cond (uK f) (some (.fn f [])) none) none
 | .list M Δ=>(qE "list" name).map .meth
 |M=>none
noncomputable def yo:Value→Option aB
 | .ref a=>some a
 |M=>none
noncomputable def hZ(G:fS)(v:V)(name:Str)(hp:Hp):Option fK:=match v with
 | .own n=>hp[n]?.bind (HY G v name hp)
 | .str M=>(qE "str" name).map .meth
 | .int M=>(qE "int" name).map .meth
 | .val c=>(yo c).bind fun a=>cond (name==ae "search") ((G.pat a).map .pat) none
 |M=>none
noncomputable def q7(name:Str):Bool:=(["__module__","__name__","__qualname__","__doc__","__annotations__"]:List Str).contains name
def Oh(G:fS)(v:V)(name:Str)(hp:Hp)(K:V→Prop):Option AO→Prop
 |some o=>match o with
  | .inst C lk=>fN (nI hp (some lk)) fun l=>match l.lookup name with
   |some u=>cond (G.dat C name) (cond (uK u) (K u) False) False
   |none=>fN (G.meth C name) fun f=>cond (q7 name) False (K (.meth f v))
  |M=>False
 |none=>False
def Fo(G:fS)(v:V)(name:Str)(hp:Hp)(K:V→Prop):Prop:=Dv v fun n=>Oh G (.own n) name hp K hp[n]?
noncomputable def C9(G:fS)(n:Nat)(name:Str)(u:V)(hp:Hp):AO→Option Hp
 | .inst C k=>cond (G.dat C name) ((hp[k]?.bind zv).bind fun l=>cond (bz l.length 1000) (some (hp.set k (.attrs (m4 name u l)))) none) none
 | .fn tag cs lk=>cond (G.free name) (cond lk.isNone (some (hp.set n (.fn tag cs (some hp.length))++[.attrs [(name,u)]])) none) none
 |M=>none
noncomputable def MM:V→Option Nat
 | .own n=>some n
 |M=>none
noncomputable def kZ(G:fS)(v:V)(name:Str)(u:V)(hp:Hp):Option Hp:=(MM v).bind fun n=>hp[n]?.bind (C9 G n name u hp)
def C8(n:Nat)(i:Int)(u:V)(hp:Hp)(K:Hp→Prop):Option AO→Prop
 |some o=>match o with
  | .list t l=>un t u fun d=>(0≤i∧i<l.length)∧K (hp.set n (.list t (l.set i.toNat d)))
  |M=>False
 |none=>False
def wf(v i u:V)(hp:Hp)(K:Hp→Prop):Prop:=Dv v fun n=>ly i fun i=>C8 n i u hp K hp[n]?
def H6(op:Operator)(a b:V)(K:V→Prop):Prop:=match a with
 | .int a=>ly b fun b=>match op with
  | .Add=>K (.int (a+b))
  | .Sub=>K (.int (a-b))
  | .Mult=>(aH a∧aH b)∧K (.int (a*b))
  | .FloorDiv=>(b≠0∧aH a∧b.natAbs<2^30)∧K (.int (a.fdiv b))
  |M=>False
 | .str a=>gU b fun b=>cond (tn op) ((a++b).length≤bS∧K (.str (a++b))) False
 |M=>False
inductive Fl where
 |next|brk|cont
 |ret (v:V)
inductive D where
 |t
 |b (b:Bool)
 |r (v:V) (hp:Hp)
 |l (f:Fl) (hp:Hp)
 |c (t:Ty) (l:List (den t)) (hp:Hp)
 |n
 |g (names:List Str)
 |k (n:Nat)
noncomputable abbrev Ds:=List D
noncomputable abbrev KV:=V→Hp→Ds→Prop
noncomputable abbrev KF:=Fl→Hp→Ds→Prop
noncomputable abbrev cG:=V→List V→List (Str×V)→Hp→Ds→KV→Prop
structure Ev where
 ev:Expr→Cx→Hp→Ds→KV→Prop
 ts:Expr→Cx→Hp→Ds→(Bool→Hp→Ds→Prop)→Prop
 ex:bP→Cx→Hp→Ds→KF→Prop
def br(b:Bool)(ds:Ds)(f:Bool→Ds→Prop):Prop:=match ds with
 |[]=>f b []
 |d::r=>match d with
  | .t=>f b r
  | .b c=>b=c∧f c r
  |M=>f b (d::r)
def gn(m:Ds→KV→Prop)(v:V)(hp:Hp):Prop:=∃d,m d fun v' h' M=>v'=v∧h'=hp
def EM(m:Ds→KV→Prop)(ds:Ds)(K:KV):Prop:=match ds with
 |[]=>m [] K
 |d::r=>match d with
  | .r v hp=>gn m v hp∧K v hp r
  | .n=>m r K
  |M=>m (d::r) K
def eF(m:Ds→KF→Prop)(f:Fl)(hp:Hp):Prop:=∃d,m d fun f' h' M=>f'=f∧h'=hp
def q6(m:Ds→KF→Prop)(ds:Ds)(K:KF):Prop:=match ds with
 |[]=>m [] K
 |d::r=>match d with
  | .l f hp=>eF m f hp∧K f hp r
  | .n=>m r K
  |M=>m (d::r) K
def rF(u:Ty)(m:Ds→(List (den u)→Hp→Ds→Prop)→Prop)(l:List (den u))(hp:Hp):Prop:=∃d,m d fun l' h' M=>l'=l∧h'=hp
def EO(u:Ty)(m:Ds→(List (den u)→Hp→Ds→Prop)→Prop)(ds:Ds)(K:List (den u)→Hp→Ds→Prop):Prop:=match ds with
 |[]=>m [] K
 |d::r=>match d with
  | .c t l hp=>fN (ma t u l) fun l=>rF u m l hp∧K l hp r
  | .n=>m r K
  |M=>m (d::r) K
noncomputable def O6:Option Nat→List V
 |none=>[]
 |some k=>[.own k]
noncomputable def G2:AO→List V
 | .cell v=>[v]
 | .inst M lk=>[.own lk]
 | .fn M cs lk=>cs.map (fun p=> .own p.2)++O6 lk
 | .attrs l=>l.map (·.2)
 | .loc l=>l.map (·.2)
 | .calls f s M=>[f,s]
 |M=>[]
noncomputable def DU:Option AO→List V
 |none=>[]
 |some o=>G2 o
noncomputable def km(hp:Hp):Nat→List V→List Nat→List Nat
 |0,M,seen=>seen
 |k+1,todo,seen=>match todo with
  |[]=>seen
  |v::r=>match v with
   | .own n=>cond (seen.contains n) (km hp k r seen) (km hp k (DU hp[n]? ++r) (seen++[n]))
   | .tc a b=>km hp k (a::b::r) seen
   | .meth M s=>km hp k (s::r) seen
   |M=>km hp k r seen
noncomputable def tS:Nat→Nat→List Nat
 |M,0=>[]
 |a,n+1=>a::tS (a+1) n
noncomputable def sX(hp:Hp)(n:Nat)(vs:List V):List Nat:=km hp 400 (vs++(hp.take n).flatMap G2) (tS 0 n)
noncomputable def pM(names:List Str)(l:List (Str×V)):List (Str×V):=l.map fun p=>(p.1,cond (names.contains p.1) .unb p.2)
noncomputable def forget(fr:Nat)(names:List Str)(hp:Hp):Hp:=match hp[fr]? with
 |some o=>match o with
  | .loc l=>hp.set fr (.loc (pM names l))
  |M=>hp
 |none=>hp
def DY(J:List Nat)(n:Nat)(hp:Hp)(K:(Nat→Option Nat)→Hp→Prop):Prop:=cond (nV J) (fN (sK (fun k=>iF k J 0) hp J) fun hp2=>cond (bz n hp.length) (K (fun k=>iF k J 0) hp2) False) False
def gB(n:Nat)(vs:List V)(hp:Hp)(K:(Nat→Option Nat)→Hp→Prop):Prop:=DY (sX hp n vs) n hp K
def vJ(n fr:Nat)(hp:Hp)(ds:Ds)(K:Hp→Ds→Prop):Prop:=match ds with
 |[]=>K hp []
 |d::r=>match d with
  | .g names=>gB n [] (forget fr names hp) fun M hp=>K hp r
  |M=>K hp (d::r)
noncomputable def BQ(k:Nat):V→Hp→(V→Hp→Prop)→Prop
 | .own n,hp,K=>cond (bz k n) (match hp[n]? with
  |some o=>(match o with
   | .list t l=>K (.lst t l) (hp.set n .dead)
   |M=>K (.own n) hp)
  |none=>K (.own n) hp) (K (.own n) hp)
 | .tc a r,hp,K=>BQ k a hp fun a hp=>BQ k r hp fun r hp=>K (.tc a r) hp
 |v,hp,K=>K v hp
def nj(k:Nat)(frz:Bool)(v:V)(hp:Hp)(K:V→Hp→Prop):Prop:=
 cond frz (BQ k v hp) (fun K=>K v hp) fun v hp=>gB k [v] hp fun f hp=>fN (iA f v) fun v=>K v hp
noncomputable def wt(f:Nat→Option Nat):List V→Option (List V)
 |[]=>some []
 |v::r=>(iA f v).bind fun v=>(wt f r).map (v:: ·)
def iD(C:cG)(f:V)(args:List V)(kw:List (Str×V))(hp:Hp)(ds:Ds)(K:KV):Prop:=
 (fun J=>cond (nV J) (fN (sK (fun k=>iF k J 0) hp J) fun hp1=>fN (iA (fun k=>iF k J 0) f) fun f=>fN (wt (fun k=>iF k J 0) args) fun args=>fN (rV (iA fun k=>iF k J 0) kw) fun kw=>EM (C f args kw hp1) ds fun v hp2 ds=>fN (iA (pa J hp.length) v) fun v=>fN (wv (pa J hp.length) hp2) fun hp2=>K v (FL J hp (hp2.take J.length)++hp2.drop J.length) ds) False)
  (km hp 400 (f::args++kw.map (·.2)) [])
noncomputable def cQ:List Expr→Bool
 |[]=>true
 |e::r=>match e with
  | .Starred .. =>false
  |M=>cQ r
noncomputable def gM:List Keyword→Bool
 |[]=>true
 |k::r=>cond k.arg.isSome (gM r) false
noncomputable def j0:Expr→Bool
 | .Set .. =>false
 |M=>true
noncomputable def KD:Expr→Bool
 | .Name .. =>true
 |M=>false
noncomputable def iG{α:Type}:List α→Bool
 |[]=>true
 |M=>false
noncomputable def gf:Expr→Bool
 | .Call f args jS M=>cond (iG args) (cond (iG jS) (!KD f) true) true
 |M=>true
noncomputable def Kf(x:Option NameKind):Bool:=match x with
 |none=>true
 |some k=>match k with
  | .globalImplicit=>true
  |M=>false
noncomputable def pF(scope:Scope):Bool:=
 cond (scope.kind== .function) (cond (scope.names.all fun x=>x.2 != .local||scope.names.lookup x.1==some .local) (cond (scope.names.lookup (ae "__classdict__")).isNone (Kf (scope.names.lookup (ae "__debug__"))) false) false) false
noncomputable def jU(Γ:Cx)(x:Str×NameKind):Str×NameKind:=match x.2 with
 | .free=>match Γ.names.lookup x.1 with
  |some k=>match k with
   | .cell=>(x.1,.cell)
   |M=>x
  |none=>x
 |M=>x
noncomputable def u3(Γ:Cx)(scope:Scope)(n:Nat)(cl:List (Str×Nat)):Cx:=⟨scope.names.map (jU Γ),fI (n+1) (cu scope.names) cl,n,Γ.mks⟩
noncomputable def qL:BoolOp→Bool
 | .And=>true
 | .Or=>false
noncomputable def gW:Expr→Bool
 | .ListComp .. | .SetComp .. | .DictComp .. =>true
 |M=>false
noncomputable def DF(a:Arguments):Bool:=(a.posonlyargs++a.args++a.vararg.toList++a.kwonlyargs++a.kwarg.toList).all (·.annotation.isNone)
noncomputable def m8(t e:Expr):Bool:=match e with
 | .Tuple vs M Δ=>match t with
  | .Tuple M Δ Θ=> !(vs.all (constantsAlone 8))||vs.all (foldedForSure 8)
  | .List M Δ=>false
  |M=>true
 |M=>true
section
variable(G:fS)(C:cG)(r:Ev)
noncomputable def FO:List Expr→Cx→Hp→Ds→(List V→Hp→Ds→Prop)→Prop
 |[],Γ,hp,ds,K=>K [] hp ds
 |x::rest,Γ,hp,ds,K=>r.ev x Γ hp ds fun v hp ds=>FO rest Γ hp ds fun vs hp ds=>K (v::vs) hp ds
noncomputable def jS:List Keyword→Cx→Hp→Ds→(List (Str×V)→Hp→Ds→Prop)→Prop
 |[],Γ,hp,ds,K=>K [] hp ds
 |k::rest,Γ,hp,ds,K=>fN k.arg fun n=>r.ev k.value Γ hp ds fun v hp ds=>jS rest Γ hp ds fun kw hp ds=>K ((n,v)::kw) hp ds
def OF:Option Expr→Cx→Hp→Ds→KV→Prop
 |none,Γ,hp,ds,K=>K .none hp ds
 |some x,Γ,hp,ds,K=>r.ev x Γ hp ds K
noncomputable def AR:List Expr→V→List CmpOp→Cx→Hp→Ds→(Bool→Hp→Ds→Prop)→Prop
 |[],M,Δ,Θ,Λ,Φ,Ψ=>False
 |x::rs,a,ops,Γ,hp,ds,K=>match ops with
  |[]=>False
  |op::ops=>r.ev x Γ hp ds fun b hp ds=>E1 op a b hp fun c=>cond (iG ops) (iu rs (K c hp ds)) (br c ds fun c ds=>cond c (AR rs b ops Γ hp ds K) (K false hp ds))
noncomputable def LF(op:BoolOp):List Expr→Cx→Hp→Ds→(Bool→Hp→Ds→Prop)→Prop
 |[],Γ,hp,ds,K=>K (qL op) hp ds
 |x::rest,Γ,hp,ds,K=>r.ts x Γ hp ds fun b hp ds=>br b ds fun b ds=>cond (b==qL op) (LF op rest Γ hp ds K) (K b hp ds)
noncomputable def zT:List Expr→Cx→Hp→Ds→(Bool→Hp→Ds→Prop)→Prop
 |[],Γ,hp,ds,K=>K true hp ds
 |x::rest,Γ,hp,ds,K=>r.ts x Γ hp ds fun b hp ds=>br b ds fun b ds=>cond b (zT rest Γ hp ds K) (K false hp ds)
def Fc(a:aB)(args:List V)(kw:List (Str×V))(hp:Hp)(ds:Ds)(K:KV):Prop:=match G.init a with
 |some i=>iD C (.val (.ref i)) (.own (hp.length+1)::args) kw (hp++[.attrs [],.inst a hp.length]) ds fun v hp' ds=>v= .none∧K (.own (hp.length+1)) hp' ds
 |none=>iD C (.val (.ref a)) args kw hp ds K
def Fb(own:Bool)(f:V)(args:List V)(kw:List (Str×V))(hp:Hp)(ds:Ds)(K:KV):Prop:=match f with
 | .val f=>match f with
  | .builtin id=>cond (id=="sorted") (sN own args kw hp fun v hp=>K v hp ds) (iu kw (Fd id args hp fun v hp=>K v hp ds))
  | .type T=>iu kw (Jc own T args hp fun v hp=>K v hp ds)
  | .ref a=>Fc G C a args kw hp ds K
  |M=>False
 | .own n=>iD C (.own n) args kw hp ds K
 |M=>False
def Fs(own:Bool)(c:fK)(v:V)(args:List V)(kw:List (Str×V))(hp:Hp)(ds:Ds)(K:KV):Prop:=match c with
 | .fn f first=>Fb G C own f (first++args) kw hp ds K
 | .meth id=>iu kw (wQ id v args hp fun v hp=>K v hp ds)
 | .pat ok=>False
noncomputable def tZ:List cT→List Str
 |[]=>[]
 |g::gs=>(match g.target with
  | .Name x M=>[x]
  | .Tuple ts M Δ=>ts.filterMap ut
  |M=>[])++tZ gs
noncomputable def iC(u:Ty)(turn:V→Hp→Ds→(List (den u)→Hp→Ds→Prop)→Prop)(ok:Hp→Prop→Prop)(fr:Nat)(names:List Str):List V→Hp→Ds→(List (den u)→Hp→Ds→Prop)→Prop
 |[],hp,ds,K=>ok hp (K [] (forget fr names hp) ds)
 |x::xs,hp,ds,K=>ok hp (EO u (turn x (forget fr names hp)) ds fun o hp ds=>iC u turn ok fr names xs hp ds fun l hp ds=>K (o++l) hp ds)
noncomputable def L1:Nat→Nat
 |0=>0
 |1=>1000000
 |2=>4000
 |3=>250
 |M=>0
noncomputable def ze(m:Nat)(u:Ty)(elt:Expr)(Γ:Cx):List cT→Hp→Ds→(List (den u)→Hp→Ds→Prop)→Prop
 |[],hp,ds,K=>r.ev elt Γ hp ds fun v hp ds=>un u v fun d=>K [d] hp ds
 |g::gs,hp,ds,K=>cond (j0 g.iter) (r.ev g.iter Γ hp ds fun v hp ds=>Bl hp v fun xs ok=>cond (bz xs.length m)
   (EO u (iC u (fun x hp ds K=>iK Γ g.target x hp fun hp=>zT r g.ifs Γ hp ds fun c hp ds=>cond c (ze m u elt Γ gs hp ds K) (K [] hp ds)) ok Γ.fr (tZ (g::gs)) xs hp) ds K) False) False
def Fe(m:Nat)(u:Ty)(elt:Expr)(g:cT)(gs:List cT)(Γ:Cx)(x:V)(hp:Hp)(ds:Ds)(K:List (den u)→Hp→Ds→Prop):Prop:=
 iK Γ g.target x hp fun hp=>zT r g.ifs Γ hp ds fun c hp ds=>cond c (ze r m u elt Γ gs hp ds K) (K [] hp ds)
def kr(n:Nat)(own:Bool)(u:Ty)(K:KV)(l:List (den u))(hp:Hp)(ds:Ds):Prop:=Ko (fun M=>DY ((sX hp n []).filter fun k=> !aS k n) n hp fun M hp=>kD own u l hp fun v hp=>K v hp ds) hp[n]?
noncomputable def EW(scope:Scope)(hp:Hp):Hp:=hp++ .loc (gq scope.names)::(cu scope.names).map fun M=> .cell .unb
def nh(own:Bool)(u:Ty)(elt:Expr)(gs:List cT)(scope:Scope)(Γ:Cx)(hp:Hp)(ds:Ds)(K:KV):Prop:=match gs with
 |[]=>False
 |g::gs=>cond (j0 g.iter) (cond ((g::gs).all fun g=>g.is_async==0) (cond (pF scope) (fN (eS Γ scope.names []) fun cl=>r.ev g.iter Γ hp ds fun v hp ds=>Bl hp v fun xs ok=>cond (bz xs.length (L1 (gs.length+1)))
   (iC u (Fe r (L1 (gs.length+1)) u elt g gs (u3 Γ scope hp.length cl)) ok hp.length (tZ (g::gs)) xs (EW scope hp) ds (kr hp.length own u K)) False) False) False) False
noncomputable def wY(r:Ev):List Expr→List Nat→Cx→Hp→Ds→KV→Prop
 |[],acc,Γ,hp,ds,K=>K (.str acc) hp ds
 |x::rest,acc,Γ,hp,ds,K=>match x with
  | .FormattedValue v c sp M=>cond (c==115) (cond sp.isNone (r.ev v Γ hp ds fun u hp ds=>gU u fun y=>(acc++y).length≤bS∧wY r rest (acc++y) Γ hp ds K) False) False
  | .Constant c k p=>match c with
   | .str y=>(acc++y.cps.toList).length≤bS∧wY r rest (acc++y.cps.toList) Γ hp ds K
   |M=>False
  |M=>False
abbrev zY(i:Expr)(X:Option Expr→Option Expr→Option Expr→Prop)(Y:Expr→Prop):Prop:=match i with
 | .Slice l u st M=>X l u st
 |i=>Y i
abbrev rq(f:Expr)(X:Expr→Str→Pos→Prop)(Y:Expr→Prop):Prop:=match f with
 | .Attribute o n p=>X o n p
 |f=>Y f
noncomputable def uF(f:Expr):Bool:=match f with
 | .Attribute M Δ Θ=>true
 |M=>false
def CZ(G:fS)(C:cG)(r:Ev):Expr→Cx→Hp→Ds→KV→Prop
 | .Constant c M Δ,Γ,hp,ds,K=>fN (zd c) fun v=>K v hp ds
 | .Name x M,Γ,hp,ds,K=>fN (jd x (lg G Γ hp x)) fun v=>K v hp ds
 | .BinOp l op x p,Γ,hp,ds,K=>r.ev l Γ hp ds fun a hp ds=>r.ev x Γ hp ds fun b hp ds=>Oc (G.own p) op a b hp fun v hp=>K v hp ds
 | .UnaryOp op x M,Γ,hp,ds,K=>r.ev x Γ hp ds fun a hp ds=>PQ op a hp fun v hp=>K v hp ds
 | .IfExp t b o M,Γ,hp,ds,K=>r.ts t Γ hp ds fun c hp ds=>br c ds fun c ds=>cond c (r.ev b Γ hp ds K) (r.ev o Γ hp ds K)
 | .BoolOp op es M,Γ,hp,ds,K=>cond (qL op) (Ci es fun x y=>r.ev x Γ hp ds fun v hp ds=>AT v fun b=>br b ds fun b ds=>cond b (r.ev y Γ hp ds K) (K (.bool false) hp ds)) False
 | .JoinedStr es M,Γ,hp,ds,K=>cond (dZ 1 es.length) (wY r es [] Γ hp ds K) False
 | .Tuple es M Δ,Γ,hp,ds,K=>cond (cQ es) (FO r es Γ hp ds fun vs hp ds=>cond (bz vs.length bS) (K (rN vs) hp ds) False) False
 | .List es p,Γ,hp,ds,K=>cond (cQ es) (FO r es Γ hp ds fun vs hp ds=>Ow (G.typ p) vs fun l=>kD (G.own p) (G.typ p) l hp fun v hp=>K v hp ds) False
 | .Compare l ops rs M,Γ,hp,ds,K=>iE rs fun x=>iE ops fun op=>cond (j0 x) (r.ev l Γ hp ds fun a hp ds=>r.ev x Γ hp ds fun b hp ds=>E1 op a b hp fun c=>K (.bool c) hp ds) False
 | .Attribute o name M,Γ,hp,ds,K=>cond (gf o) (r.ev o Γ hp ds fun v hp ds=>Fo G v name hp fun u=>K u hp ds) False
 | .Subscript o i p,Γ,hp,ds,K=>zY i (fun l u st=>cond st.isNone (r.ev o Γ hp ds fun v hp ds=>OF r l Γ hp ds fun lv hp ds=>OF r u Γ hp ds fun uv hp ds=>C5 (G.own p) v lv uv hp fun v hp=>K v hp ds) False)
  fun i=>r.ev o Γ hp ds fun v hp ds=>r.ev i Γ hp ds fun iv hp ds=>KS v iv hp fun x=>K x hp ds
 | .Call f args kw p,Γ,hp,ds,K=>cond (cQ args) (cond (gM kw) (rq f
  (fun o name ap=>cond (gf o) (cond (ap.endLine==p.line) (cond (dZ (args.length+kw.length) 29) (r.ev o Γ hp ds fun v hp ds=>fN (hZ G v name hp) fun c=>FO r args Γ hp ds fun vs hp ds=>jS r kw Γ hp ds fun kw hp ds=>Fs G C (G.own p) c v vs kw hp ds K) False) False) False)
  fun f=>r.ev f Γ hp ds fun v hp ds=>FO r args Γ hp ds fun vs hp ds=>jS r kw Γ hp ds fun kw hp ds=>Fb G C (G.own p) v vs kw hp ds K) False) False
 | .ListComp elt gs scope p,Γ,hp,ds,K=>EM (nh r (G.own p) (G.typ p) elt gs scope Γ hp) ds K
 | .Lambda args body scope p,Γ,hp,ds,K=>fN (G.tag p) fun tag=>fN (eS Γ scope.names []) fun cl=>G.code tag=some ⟨args,.expr body,scope⟩∧cond Γ.mks (cond (iG args.defaults) (cond (iG args.kw_defaults) (K (.own hp.length) (hp++[.fn tag cl none]) ds) False) False) False
 |M,Δ,Θ,Λ,Φ=>False
def MK(c:fK)(f:(List Nat→Bool×Bool)→Prop):Prop:=match c with
 | .pat ok=>f ok
 |M=>False
def Gy(G:fS)(r:Ev)(o:Expr)(args:List Expr)(kw:List Keyword)(Γ:Cx)(hp:Hp)(ds:Ds)(K:Bool→Hp→Ds→Prop):Prop:=cond (cQ args) (cond (dZ (args.length+kw.length) 29) (iu kw (r.ev o Γ hp ds fun v hp ds=>fN (hZ G v (ae "search") hp) fun c=>MK c fun ok=>FO r args Γ hp ds fun vs hp ds=>iE vs fun x=>gU x fun x=>(ok x).1=true∧K (ok x).2 hp ds)) False) False
def vX(r:Ev)(e:Expr)(Γ:Cx)(hp:Hp)(ds:Ds)(K:Bool→Hp→Ds→Prop):Prop:=r.ev e Γ hp ds fun v hp ds=>fN (yb hp v) fun b=>K b hp ds
def CX(G:fS)(r:Ev)(e:Expr)(Γ:Cx)(hp:Hp)(ds:Ds)(K:Bool→Hp→Ds→Prop):Prop:=match e with
 | .UnaryOp op x M=>match op with
  | .Not=>r.ts x Γ hp ds fun b hp ds=>K (!b) hp ds
  |M=>vX r e Γ hp ds K
 | .BoolOp op es M=>LF r op es Γ hp ds K
 | .IfExp t b o M=>r.ts t Γ hp ds fun c hp ds=>br c ds fun c ds=>cond c (r.ts b Γ hp ds K) (r.ts o Γ hp ds K)
 | .Compare l ops rs M=>cond (rs.all j0) (r.ev l Γ hp ds fun a hp ds=>AR r rs a ops Γ hp ds K) False
 | .Call f args kw p=>rq f (fun o n ap=>cond (n==ae "search") (cond (gf o) (cond (ap.endLine==p.line) (Gy G r o args kw Γ hp ds K) False) False) (vX r (.Call (.Attribute o n ap) args kw p) Γ hp ds K)) fun f=>vX r (.Call f args kw p) Γ hp ds K
 |e=>vX r e Γ hp ds K
noncomputable def bf:List bP→Cx→Hp→Ds→KF→Prop
 |[],Γ,hp,ds,K=>K .next hp ds
 |s::rest,Γ,hp,ds,K=>r.ex s Γ hp ds fun f hp ds=>match f with
  | .next=>bf rest Γ hp ds K
  | .brk=>K .brk hp ds
  | .cont=>K .cont hp ds
  | .ret v=>K (.ret v) hp ds
def uy(G:fS)(t:Expr)(v:V)(Γ:Cx)(hp:Hp)(ds:Ds)(K:Hp→Ds→Prop):Prop:=match t with
 | .Attribute o name M=>r.ev o Γ hp ds fun ov hp ds=>fN (kZ G ov name v hp) fun hp=>K hp ds
 | .Subscript o i M=>r.ev o Γ hp ds fun ov hp ds=>r.ev i Γ hp ds fun iv hp ds=>wf ov iv v hp fun hp=>K hp ds
 |t=>iK Γ t v hp fun hp=>K hp ds
def pY(n fr:Nat)(K:KF)(next:Hp→Ds→Prop)(f:Fl)(hp:Hp)(ds:Ds):Prop:=match f with
 | .next| .cont=>vJ n fr hp ds next
 | .brk=>K .next hp ds
 | .ret v=>K (.ret v) hp ds
noncomputable def kE(turn:V→Hp→Ds→KF→Prop)(ok:Hp→Prop→Prop)(n fr:Nat):List V→Hp→Ds→KF→Prop
 |[],hp,ds,K=>ok hp (K .next hp ds)
 |x::xs,hp,ds,K=>ok hp (q6 (turn x hp) ds (pY n fr K fun hp ds=>kE turn ok n fr xs hp ds K))
def zm(f:V→V→Bool→Prop):Option AO→Prop
 |some o=>match o with
  | .calls g s e=>f g s e
  |M=>False
 |none=>False
def II(C:cG)(n:Nat)(hp:Hp)(ds:Ds)(K:Option V→Hp→Ds→Prop):Prop:=zm (fun g st e=>cond e (K none hp ds) (gU st fun y=>wN g fun a self=>iD C (.val (.ref a)) [self] [] hp ds fun v hp' ds=>zm (fun g' st' e'=>wN g' fun a' M=>cond (aS a' a) (cond e' False (gU st' fun y'=>gU v fun x=>br (y'==x) ds fun c ds=>cond c (K none (hp'.set n (.calls .none .none true)) ds) (K (some v) hp' ds))) False) hp'[n]?)) hp[n]?
noncomputable def kn(C:cG)(turn:V→Hp→Ds→KF→Prop)(n0 fr n:Nat):Nat→Hp→Ds→KF→Prop
 |0,M,Δ,Θ=>False
 |k+1,hp,ds,K=>II C n hp ds fun x hp ds=>match x with
  |none=>K .next hp ds
  |some x=>q6 (turn x hp) ds (pY n0 fr K fun hp ds=>kn C turn n0 fr n k hp ds K)
def uE(hp:Hp)(v:V)(f:Nat→Prop)(g:Prop):Prop:=match v with
 | .own n=>match hp[n]? with
  |some o=>match o with
   | .calls .. =>f n
   |M=>g
  |none=>g
 |M=>g
def CF(ds:Ds)(f:Nat→Ds→Prop):Prop:=match ds with
 |[]=>False
 |d::r=>match d with
  | .k n=>f n r
  |M=>False
noncomputable def f9(n:Nat)(e:Bool):List Nat→List (Int×List Nat)
 |[]=>cond e [(((n-1:Nat):Int),[92])] []
 |c::r=>cond e (((n:Int),[92,c])::f9 (n+1) false r) (cond (aS c 92) (f9 (n+1) true r) (((n:Int),[c])::f9 (n+1) false r))
noncomputable def EI:Ty:= .cons .int (.one .str)
inductive Ig where
 |rev
 |gen (a:aB)
noncomputable def Iz(G:fS):V→Option Ig
 | .val v=>match v with
  | .type T=>cond (T=="reversed") (some .rev) none
  | .ref a=>cond (G.gen a) (some (.gen a)) none
  |M=>none
 |M=>none
noncomputable def C1(G:fS)(Γ:Cx):Expr→Option (Ig×Expr)
 | .Call f args kw M=>(ut f).bind fun x=>cond (x==ae "__debug__") none<|cond (Γ.names.lookup x==some .globalImplicit) ((G.glob x).bind fun v=>(Iz G v).bind fun s=>match args with
  |[]=>none
  |a::r=>cond (iG r) (cond (iG kw) (cond (cQ args) (some (s,a)) none) none) none) none
 |M=>none
def Iy(s:Ig)(v:V)(f:List V→Prop):Prop:=match s with
 | .rev=>GR v fun t l=>f (l.reverse.map (emb t))
 | .gen M=>gU v fun s=>f ((f9 0 false s).map (emb EI))
def Og(t:Expr)(f:Str→Prop)(g:Expr→Str→Prop):Prop:=match t with
 | .Name x M=>f x
 | .Attribute o name M=>g o name
 |M=>False
def pZ(t:Expr)(body:List bP)(Γ:Cx)(x:V)(hp:Hp)(ds:Ds)(K:KF):Prop:=iK Γ t x hp fun hp=>bf r body Γ hp ds K
def K5(G:fS)(C:cG)(r:Ev)(t i:Expr)(body els:List bP)(Γ:Cx)(hp:Hp)(ds:Ds)(K:KF):Prop:=iu els (cond (j0 i) (match C1 G Γ i with
 |some (s,x)=>r.ev x Γ hp ds fun v hp ds=>Iy s v fun xs=>kE (pZ r t body Γ) (fun M p=>p) hp.length Γ.fr xs hp ds K
 |none=>r.ev i Γ hp ds fun v hp ds=>uE hp v (fun n=>CF ds fun k ds=>kn C (pZ r t body Γ) hp.length Γ.fr n k hp ds K)
  (Bl hp v fun xs ok=>kE (pZ r t body Γ) ok hp.length Γ.fr xs hp ds K)) False)
noncomputable def gQ(Γ:Cx):List (Str×V)→Hp→(Hp→Prop)→Prop
 |[],hp,K=>K hp
 |p::r,hp,K=>eM Γ p.1 p.2 hp fun hp=>gQ Γ r hp K
noncomputable def fT(args:List V)(kw:List (Str×V)):List (Str×(Nat ⊕ V))→Option (List (Str×V))
 |[]=>some []
 |p::r=>(match p.2 with
  | .inl n=>(args++kw.map Prod.snd)[n]?
  | .inr v=>some v).bind fun v=>(fT args kw r).map ((p.1,v):: ·)
noncomputable def eU(n:Nat)(names:List Str):List (Nat×List Str×List (Str×(Nat ⊕ V)))→Option (List (Str×(Nat ⊕ V)))
 |[]=>none
 |b::r=>cond (aS n b.1) (cond (names==b.2.1) (some b.2.2) (eU n names r)) (eU n names r)
def M3(G:fS)(e:Expr)(Γ:Cx)(hp:Hp)(ds:Ds)(K:KV):Prop:=match e with
 | .Constant c M Δ=>fN (zd c) fun v=>K v hp ds
 | .Name x M=>fN (jd x (lg G Γ hp x)) fun v=>K v hp ds
 |M=>False
noncomputable def IT(G:fS):Ev:=⟨M3 G,fun M M M M M=>False,fun M M M M M=>False⟩
noncomputable abbrev jv:Str:=ae "ZeroDivisionError"
inductive lT(G:fS)(args:List V)(hp:Hp)(K:Hp→Prop):V→Prop
 |mk (a:aB) (fn:Fn) (bs:List (Str×V)) (t:Expr) (xp rp ip:Pos) (els rest:List bP) (hf:G.fn a=some fn) (hb:(eU args.length [] fn.binds).bind (fT args [])=some bs) (body:fn.code.body= .stmts (.If t [.Raise (some (.Name jv xp)) none rp] els ip::rest)) (hn:fn.code.scope.names.lookup jv=some .globalImplicit)
  (h:gQ ⟨fn.code.scope.names,fI (hp.length+1) (cu fn.code.scope.names) [],hp.length,fn.mks⟩ bs (hp++ .loc (gq fn.code.scope.names)::(cu fn.code.scope.names).map fun M=> .cell .unb) fun hp'=>CX G (IT G) t ⟨fn.code.scope.names,fI (hp.length+1) (cu fn.code.scope.names) [],hp.length,fn.mks⟩ hp' [] fun b hp M=>b=true∧K hp):lT G args hp K (.val (.ref a))
noncomputable def mF(G:fS)(Γ:Cx)(hp:Hp):List Expr→Option (List V)
 |[]=>some []
 |e::es=>match e with
  | .Name x M=>(jd x (lg G Γ hp x)).bind fun v=>(mF G Γ hp es).map (v:: ·)
  |M=>none
def Fj(G:fS)(r:Ev)(f:Expr)(args es:List Expr)(Γ:Cx)(hp:Hp)(ds:Ds)(K:KF):Prop:=r.ev f Γ hp ds fun fv hp ds=>FO r args Γ hp ds fun vs hp ds=>lT G vs hp (fun hp=>fN (mF G Γ hp es) fun vs=>bz vs.length bS=true∧K (.ret (rN vs)) hp ds) fv
def Iq(G:fS)(r:Ev)(t:Expr)(body:List bP)(f:Expr)(args es:List Expr)(Γ:Cx)(x:V)(hp:Hp)(ds:Ds)(K:KF):Prop:=iK Γ t x hp fun hp=>bf r body Γ hp ds K∨Fj G r f args es Γ hp ds K
inductive Id(G:fS)(r:Ev)(Γ:Cx)(hp:Hp)(ds:Ds)(K:KF):List bP→List ExceptHandler→Prop
 |mk (t it tt f:Expr) (args es:List Expr) (more:List bP) (k:Nat) (p2 p3 p5 p6 p7 p8 p9:Pos) (hf:uF f=false) (hset:j0 it=true) (ha:cQ args=true) (he:cQ es=true) (hz:G.glob jv=some (.val (.type "ZeroDivisionError"))) (hn:Γ.names.lookup jv=some .globalImplicit)
  (h:r.ev it Γ hp ds fun v hp ds=>Bl hp v fun xs ok=>kE (Iq G r t (.Assign [tt] (.Call f args [] p2) p3::more) f args es Γ) ok hp.length Γ.fr xs hp ds K):
  Id G r Γ hp ds K [.For t it (.Assign [tt] (.Call f args [] p2) p3::more) [] p5] [.ExceptHandler (some (.Name jv p6)) none [.Return (some (.Tuple es k p7)) p8] p9]
noncomputable abbrev qC:Str:=ae "ValueError"
def P4(c:fK)(f:V→List V→Prop):Prop:=match c with
 | .fn u us=>f u us
 |M=>False
def F1(G:fS)(r:Ev)(e:Expr)(Γ:Cx)(hp:Hp)(ds:Ds)(K:V→List V→List (Str×V)→Hp→Ds→Prop):Prop:=match e with
 | .Call f args kw p=>rq f (fun o name ap=>cond (cQ args) (cond (gM kw) (cond (gf o) (cond (ap.endLine==p.line) (cond (dZ (args.length+kw.length) 29)
   (r.ev o Γ hp ds fun v hp ds=>fN (hZ G v name hp) fun c=>P4 c fun f first=>FO r args Γ hp ds fun vs hp ds=>jS r kw Γ hp ds fun kw hp ds=>K f (first++vs) kw hp ds) False) False) False) False) False) fun M=>False
 |M=>False
def Ft(G:fS)(r:Ev)(e:Expr)(Γ:Cx)(hp:Hp)(ds:Ds)(K:Expr→Hp→Ds→Prop):Prop:=match e with
 | .Call f args kw p=>rq f (fun o name ap=>iu kw (iE args fun a=>cond (cQ [a]) (cond (gf o) (cond (ap.endLine==p.line) (r.ev o Γ hp ds fun v hp ds=>fN (hZ G v name hp) fun M=>K a hp ds) False) False) False)) fun M=>False
 |M=>False
def IF(e:Expr)(f:Expr→Expr→Prop):Prop:=match e with
 | .Tuple es M Δ=>cond (cQ es) (Ci es f) False
 |M=>False
noncomputable def sy(fn:Fn)(hp:Hp):Cx:=⟨fn.code.scope.names,fI (hp.length+1) (cu fn.code.scope.names) [],hp.length,fn.mks⟩
noncomputable def ND(fn:Fn)(hp:Hp):Hp:=hp++ .loc (gq fn.code.scope.names)::(cu fn.code.scope.names).map fun M=> .cell .unb
inductive nK(G:fS)(r:Ev)(args:List V)(kw:List (Str×V))(hp:Hp)(msg:Str)(K:Hp→Prop):V→Prop
 |mk (a:aB) (fn:Fn) (bs:List (Str×V)) (t1 t2:Expr) (s1:bP) (k:Nat) (p1 p2 p3 p4 p5 p6:Pos) (els1 els2 rest1 rest2:List bP) (hf:G.fn a=some fn) (hb:(eU args.length (kw.map (·.1)) fn.binds).bind (fT args kw)=some bs)
  (body:fn.code.body= .stmts (.If t1 (s1:: .If t2 [.Raise (some (.Call (.Name qC p1) [.Constant (.str msg) k p2] [] p3)) none p4] els2 p5::rest2) els1 p6::rest1)) (hn:fn.code.scope.names.lookup qC=some .globalImplicit)
  (h:gQ (sy fn hp) bs (ND fn hp) fun hp'=>∃ds,r.ts t1 (sy fn hp) hp' ds fun b hp1 ds=>b=true∧r.ex s1 (sy fn hp) hp1 ds fun f hp1 ds=>f= .next∧r.ts t2 (sy fn hp) hp1 ds fun b hp1 M=>b=true∧K hp1):nK G r args kw hp msg K (.val (.ref a))
inductive lS(G:fS)(r r2:Ev)(args:List V)(kw:List (Str×V))(hp:Hp)(msg:Str)(K:Hp→Prop):V→Prop
 |mk (a:aB) (fn:Fn) (bs:List (Str×V)) (t e:Expr) (s0:bP) (p1 p2:Pos) (els more rest:List bP) (hf:G.fn a=some fn) (hb:(eU args.length (kw.map (·.1)) fn.binds).bind (fT args kw)=some bs)
  (body:fn.code.body= .stmts (s0:: .If t (.Expr e p1::more) els p2::rest))
  (h:gQ (sy fn hp) bs (ND fn hp) fun hp'=>∃ds,r.ex s0 (sy fn hp) hp' ds fun f hp1 ds=>f= .next∧r.ts t (sy fn hp) hp1 ds fun b hp1 ds=>b=true∧Ft G r e (sy fn hp) hp1 ds fun a hp1 ds=>IF a fun e1 e2=>r.ev e1 (sy fn hp) hp1 ds fun M hp1 ds=>F1 G r e2 (sy fn hp) hp1 ds fun f args kw hp1 M=>nK G r2 args kw hp1 msg K f):lS G r r2 args kw hp msg K (.val (.ref a))
inductive Ie(G:fS)(r L L2:Ev)(Γ:Cx)(hp:Hp)(ds:Ds)(K:KF):List bP→List ExceptHandler→Prop
 |mk (e:Expr) (x y:Str) (msg:Str) (p1 p2 p3 p4 p5 p6 p7 p8 p9 p10:Pos) (hz:G.glob qC=some (.val (.type "ValueError"))) (hn:Γ.names.lookup qC=some .globalImplicit) (hz2:G.glob (ae "str")=some (.val (.type "str"))) (hn2:Γ.names.lookup (ae "str")=some .globalImplicit) (hx:Γ.names.lookup x=some .local) (hxd:(x==ae "__debug__")=false)
  (hl:p4.endLine=p7.line) (hm:bz msg.cps.toList.length bS=true) (h:Ft G r e Γ hp ds fun a hp ds=>F1 G r a Γ hp ds fun f args kw hp ds=>lS G L L2 args kw hp msg (fun hp=>eM Γ x .unb hp fun hp=>fN (jd y (lg G Γ hp y)) fun sv=>hZ G sv (ae "append") hp=some (.meth "list.append")∧wQ "list.append" sv [.str msg.cps.toList] hp fun M hp=>eM Γ x .unb hp fun hp=>K .next hp ds) f):
  Ie G r L L2 Γ hp ds K [.Expr e p1] [.ExceptHandler (some (.Name qC p2)) (some x) [.Expr (.Call (.Attribute (.Name y p3) (ae "append") p4) [.Call (.Name (ae "str") p5) [.Name x p6] [] p9] [] p7) p8] p10]
noncomputable abbrev wH:Str:=ae "replace"
noncomputable def KC(e:Expr):Bool:=match e with
 | .Call f M Δ Θ=>match f with
  | .Attribute M n Δ=>n==wH
  |M=>false
 |M=>false
noncomputable def KA(s:bP):Bool:=match s with
 | .Assign M e Δ=>KC e
 |M=>false
noncomputable def yT(s:bP):Bool:=match s with
 | .If M b Δ Θ=>b.any KA
 |M=>false
noncomputable def iP(c:Nat)(b:List Nat)(x:List Nat):List Nat:=x.flatMap fun k=>cond (aS k c) b [k]
inductive zC(G:fS)(r:Ev)(Γ:Cx)(hp:Hp)(ds:Ds)(K:KF):bP→Prop
 |mk (a l t2 o:Expr) (op:CmpOp) (i:Int) (y:Str) (c1 c2:Nat) (b1 b2:List Nat) (rest els els2:List bP) (k1 k2 k3 k4 k5:Nat) (p1 p2 p3 p4 p5 p6 p7 p8 p9 p10 p11 p12 p13 p14 p15:Pos) (hset:gf o=true) (hl1:p5.endLine=p8.line) (hl2:p9.endLine=p12.line) (hb1:b1.length≤2) (hb2:b2.length≤2) (hd1:b1≠[c1]) (hd2:b2≠[c2])
  (h:r.ts a Γ hp ds fun c hp ds=>c=true∧r.ev l Γ hp ds fun v hp ds=>E1 op v (.int i) hp fun c=>c=true∧r.ts t2 Γ hp ds fun c hp ds=>(c=true∧r.ev o Γ hp ds fun v hp ds=>gU v fun x=>x.length≤1000∧eM Γ y (.str (iP c2 b2 (iP c1 b1 x))) hp fun hp=>bf r rest Γ hp ds K)∨(c=false∧bf r els2 Γ hp ds K)):
  zC G r Γ hp ds K (.If (.BoolOp .And [a,.Compare l [op] [.Constant (.int i) k1 p1] p2] p3) [.If t2 (.Assign [.Name y p4] (.Call (.Attribute (.Call (.Attribute o wH p5) [.Constant (.str ⟨#[c1]⟩) k2 p6,.Constant (.str ⟨b1.toArray⟩) k3 p7] [] p8) wH p9) [.Constant (.str ⟨#[c2]⟩) k4 p10,.Constant (.str ⟨b2.toArray⟩) k5 p11] [] p12) p13::rest) els2 p14] els p15)
def JC(G:fS)(r L L2:Ev)(body:List bP)(hs:List ExceptHandler)(orelse fin:List bP)(Γ:Cx)(hp:Hp)(ds:Ds)(K:KF):Prop:=iu orelse (iu fin ((∃h hs',hs=h::hs'∧bf r body Γ hp ds K)∨Id G r Γ hp ds K body hs∨Ie G r L L2 Γ hp ds K body hs))
def Ix(G:fS)(C:cG)(L L2 r:Ev):bP→Cx→Hp→Ds→KF→Prop
 | .Expr e M,Γ,hp,ds,K=>cond (gW e) False (r.ev e Γ hp ds fun M hp ds=>K .next hp ds)
 | .Pass M,Γ,hp,ds,K=>K .next hp ds
 | .Break M,Γ,hp,ds,K=>K .brk hp ds
 | .Continue M,Γ,hp,ds,K=>K .cont hp ds
 | .Return e M,Γ,hp,ds,K=>OF r e Γ hp ds fun v hp ds=>K (.ret v) hp ds
 | .Assign ts e M,Γ,hp,ds,K=>iE ts fun t=>cond (m8 t e) (r.ev e Γ hp ds fun v hp ds=>uy r G t v Γ hp ds fun hp ds=>K .next hp ds) False
 | .AugAssign t op e M,Γ,hp,ds,K=>Og t (fun x=>fN (lg G Γ hp x) fun a=>r.ev e Γ hp ds fun b hp ds=>H6 op a b fun v=>eM Γ x v hp fun hp=>K .next hp ds)
   fun o name=>r.ev o Γ hp ds fun ov hp ds=>Fo G ov name hp fun a=>r.ev e Γ hp ds fun b hp ds=>H6 op a b fun v=>fN (kZ G ov name v hp) fun hp=>K .next hp ds
 | .If t b o p,Γ,hp,ds,K=>cond (b.any yT) (q6 (fun ds K=>zC G r Γ hp ds K (.If t b o p)) ds K) (r.ts t Γ hp ds fun c hp ds=>br c ds fun c ds=>cond c (bf r b Γ hp ds K) (bf r o Γ hp ds K))
 | .For t i body els M,Γ,hp,ds,K=>q6 (K5 G C r t i body els Γ hp) ds K
 | .Try body hs orelse fin M,Γ,hp,ds,K=>q6 (JC G r L L2 body hs orelse fin Γ hp) ds K
 | .FunctionDef name args body decs returns tps scope tscope bind p,Γ,hp,ds,K=>fN (G.tag p) fun tag=>fN (eS Γ scope.names []) fun cl=>cond (iG decs) (cond returns.isNone (cond (iG tps) (cond tscope.isNone (cond (bind==name) (cond (iG args.defaults) (cond (iG args.kw_defaults) (cond (DF args) (cond Γ.mks
    (G.code tag=some ⟨args,.stmts body,scope⟩∧eM Γ bind (.own hp.length) (hp++[.fn tag cl none]) fun hp=>K .next hp ds) False) False) False) False) False) False) False) False) False
 |M,Δ,Θ,Λ,Φ=>False
end
noncomputable def CY(G:fS)(C:cG)(L L2 r:Ev):Ev:=⟨CZ G C r,CX G r,Ix G C L L2 r⟩
noncomputable def AS:Ev:=⟨fun M M M M M=>False,fun M M M M M=>False,fun M M M M M=>False⟩
noncomputable def LX(G:fS)(C:cG)(L L2:Ev):Nat→Ev
 |0=>AS
 |d+1=>CY G C L L2 (LX G C L L2 d)
noncomputable def P5:Fl→Option V
 | .ret v=>some v
 | .next=>some .none
 |M=>none
def oM(r:Ev)(fc:eB)(frz mk:Bool)(cl:List (Str×Nat))(binds:List (Str×V))(hp:Hp)(ds:Ds)(K:KV):Prop:=
 gQ ⟨fc.scope.names,fI (hp.length+1) (cu fc.scope.names) cl,hp.length,mk⟩ binds (hp++ .loc (gq fc.scope.names)::(cu fc.scope.names).map fun M=> .cell .unb) fun hp'=>match fc.body with
  | .stmts b=>bf r b ⟨fc.scope.names,fI (hp.length+1) (cu fc.scope.names) cl,hp.length,mk⟩ hp' ds fun f hp' ds=>fN (P5 f) fun v=>nj hp.length frz v hp' fun v hp=>K v hp ds
  | .expr e=>r.ev e ⟨fc.scope.names,fI (hp.length+1) (cu fc.scope.names) cl,hp.length,mk⟩ hp' ds fun v hp' ds=>nj hp.length frz v hp' fun v hp=>K v hp ds
def Pe(f:Nat→List (Str×Nat)→Prop):Option AO→Prop
 |some o=>match o with
  | .fn tag cs M=>f tag cs
  |M=>False
 |none=>False
noncomputable def pS(ps:List Arg)(args:List V):Option (List (Str×V)):=match ps with
 |[]=>match args with
  |[]=>some []
  |M=>none
 |p::ps=>match args with
  |[]=>none
  |a::args=>(pS ps args).map ((p.arg,a):: ·)
noncomputable def oQ(a:Arguments):Bool:=cond (iG a.posonlyargs) (cond a.vararg.isNone (cond (iG a.kwonlyargs) (cond a.kwarg.isNone true false) false) false) false
noncomputable def C0(G:fS)(r:Ev):cG:=fun f args kw hp ds K=>match f with
 | .val f=>fN (yo f) fun a=>fN (G.fn a) fun fn=>fN ((eU args.length (kw.map (·.1)) fn.binds).bind (fT args kw)) fun bs=>oM r fn.code fn.frz fn.mks [] bs hp ds K
 | .own n=>iu kw (Pe (fun tag cs=>fN (G.code tag) fun fc=>cond (oQ fc.params) (fN (pS fc.params.args args) fun bs=>oM r fc true false cs bs hp ds K) False) hp[n]?)
 |M=>False
noncomputable def yI(G:fS):Nat→Ev×Ev
 |0=>(AS,AS)
 |n+1=>(LX G (C0 G (yI G n).1) (yI G n).1 (yI G n).2 30,(yI G n).1)
noncomputable def iI(G:fS)(n:Nat):cG:=C0 G (yI G n).1
section
variable{B:bW}{W W1:Wd}{hp hp':Hp}{s s1:ag}{A:bv}{E:Value→ag→Prop}{K:V→Hp→Prop}{Q:Value→ag→Prop}
def dH(B:bW)(W:Wd)(s:ag)(K:V→Hp→Prop)(Q:Value→ag→Prop):Prop:=
 ∀W' hp' s' v va,K v hp'→Le B W s W' s'→R B W' hp' s'→a7 W' va v→Q va s'
theorem dH.after(P:dH B W s K Q)(x:Le B W s W1 s1):dH B W1 s1 K Q:=fun W' hp' s' v va k y r q=>P W' hp' s' v va k (x.trans y) r q
theorem dH.here(P:dH B W s K Q)(r:R B W hp s){v:V}{va:Value}(k:K v hp)(q:a7 W va v):Q va s:=P W hp s v va k (.refl ..) r q
theorem dH.same(P:dH B W s K Q)(r:R B W hp s)(x:dP s s1){v:V}{va:Value}(k:K v hp)(q:a7 W va v):Q va s1:=P W hp s1 v va k x.le (r.grow x) q
theorem dH.toks(P:dH B W s K Q)(r:R B W hp s){v:V}{va:Value}{t:Nat}(k:K v hp)(q:a7 W va v):Q va {s with toks:=t}:=P.same r (.toks s t) k q
theorem dH.ins(P:dH B W s K Q)(r:R B W hp s)(x:dP s s1){a:aB}{o:Obj}(hf:s.heap.get? a=none)(e:s1.heap.get? a=some o){v:V}{va:Value}(k:K v hp)(q:a7 (W.ins a o) va v):Q va s1:=
 P _ hp s1 v va k (x.leIns r hf) (r.ins x hf e) q
theorem dH.add(P:dH B W s K Q)(r:R B W hp s)(x:dP s s1){a:aB}{o:AO}(hf:s.heap.get? a=none)(hO:kM B s1.heap (W.add a) a o)(k:K (.own hp.length) (hp++[o])):Q (.ref a) s1:=
 P _ _ s1 _ _ k (x.leAdd hf) (r.add x hf hO) (.mk _ r.addAt)
theorem JD{W:Wd}{a:aB}{o:Obj}{r:R B W hp s}(hf:s.heap.get? a=none):Tr W (W.ins a o):=⟨fun M M e=>e,Fz.le_ins (r.dead hf).2.1⟩
inductive jI(W:Wd)(s:ag)(t:Ty)(l:List (den t)):Value→Prop
 |mk (a:aB) (items:Array Value) (n:Nat) (ho:IsL s.heap a items n) (z:items.size≤bS) (r:bI (ff W.F t) items.toList l):jI W s t l (.ref a)
@[elab_as_elim] theorem jI.elim{t:Ty}{l:List (den t)}{C:Value→Prop}{v:Value}(r:jI W s t l v)(k: ∀a items n,IsL s.heap a items n→items.size≤bS→bI (ff W.F t) items.toList l→C (.ref a)):C v:=by cases r with |mk a i n x z r=>exact k a i n x z r
theorem R.lis(r:R B W hp s){t:Ty}{l:List (den t)}{va:Value}(q:a7 W va (.lst t l)):jI W s t l va:=eD.elim (show eD "list" W.F _ va from q) fun a i n ho z q=> .mk a i n (r.sub _ _ ho) z q
@[elab_as_elim] theorem R.tup{C:Value→Prop}(r:R B W hp s){va:Value}{a b:V}(q:a7 W va (.tc a b))(k: ∀x its n,IsT s.heap x its n→its.size≤bS→fJ W its.toList (.tc a b)→C (.ref x)):C va:=
 eD.elim (show eD "tuple" W.F _ va from q) fun a i n ho z q=>k a i n (r.sub _ _ ho) z q
@[elab_as_elim] theorem R.own{C:Value→Prop}(r:R B W hp s){va:Value}{n:Nat}{o:AO}(q:a7 W va (.own n))(e:hp[n]? =some o)(k: ∀a,W.own[n]? =some a→kM B s.heap W a o→C (.ref a)):C va:=
 xI.elim q fun a h=>k a h (r.objs n a o h e)
theorem qG{o:Option AO}{f:(t:Ty)→List (den t)→Prop}(h:Aj f o){C:Prop}(k: ∀t l,o=some (.list t l)→f t l→C):C:=by
 cases o with
 |none=>exact h.elim
 |some o=>cases o with
  |list t l=>exact k t l rfl h
  |_=>exact h.elim
theorem lZ.lis{a:aB}{t:Ty}{l:List (den t)}(r:lZ s.heap a (bI (ff W.F t) · l)):jI W s t l (.ref a):=by cases r with |mk i n ho z r=>exact .mk a i n ho z r
theorem kT{v:V}{va:Value}{f:(t:Ty)→List (den t)→Prop}(r:R B W hp s)(q:a7 W va v)(h:kj hp v f){C:Prop}(k: ∀t l,f t l→jI W s t l va→C):C:=by
 cases v with
 |lst t l=>exact k t l h (r.lis q)
 |own n=>exact qG h fun t l e h=>k t l h (r.own q e fun a M q=>lZ.lis q)
 |_=>exact h.elim
theorem iZ{u:Ty}{v:V}{va:Value}{f:List (den u)→Prop}(r:R B W hp s)(q:a7 W va v)(h:jn u hp v f){C:Prop}(k: ∀l,f l→jI W s u l va→C):C:=
 kT r q h fun t l h=>xy (C:=fun t l=>jI W s t l va→C) h k
theorem j6{own:Bool}{t:Ty}{l:List (den t)}{vs:List Value}{n tk:Nat}(h:kD own t l hp K)(r:R B W hp s)(q:bI (ff W.F t) vs l)(P:dH B W s K Q):
  Q (.ref s.heap.objs.size) {s with heap:=s.heap.push {cls:= .type "list",data:= .seq vs.toArray n},toks:=tk}:=by
 have hz:vs.toArray.size≤bS:=(cA.trans q.length).symm▸h.1
 have hf:=cc (av s.heap.objs.size)
 have g:=dP.push s {cls:= .type "list",data:= .seq vs.toArray n} tk
 have hl:=aF s.heap (o:={cls:= .type "list",data:= .seq vs.toArray n}) rfl
 cases own with
 |false=>exact P.ins r g hf hl h.2 (.mk _ _ _ Fz.ins_at hz (q.mono fun M M q=>q.mono (JD (r:=r) hf).F))
 |true=>exact P.add r g hf (o:= .list t l) (.mk _ _ hl hz q) h.2
theorem IJ{a b:Int}(h1:aH a)(h2:aH b):IntMulOk a b:=by
 unfold aH at h1 h2
 unfold IntMulOk
 mul_fits
theorem mS{n:Nat}(h:n≤bS):(n:Int)<2^63:=dC (bN.mpr h) (by decide)
theorem wG{a:Int}{n:Nat}(h:a.natAbs<n): -(n:Int)<a∧a<n:=
 have l:=bR.mpr h
 ⟨Int.neg_lt_of_neg_lt (dC (Int.natAbs_neg a▸Int.le_natAbs) l),dC Int.le_natAbs l⟩
theorem eO{n:Nat}(h:n≤bS):n≤sizeLine:=ad h (by rw[sizeLine_eq];decide)
theorem zq{op:Operator}{a b:Int}{t u:Tok}{K:Int→Prop}(h:Od op a b K)(hQ: ∀i,K i→Q (.int i s.toks) {s with toks:=s.toks+1}):
  ar (model B.prog B.w) A (binaryOp op (.int a t) (.int b u)) Q E s:=by
 cases op with
 |Add=>exact PySem.P.add_int (hQ _ h)
 |Sub=>exact PySem.P.sub_int (hQ _ h)
 |Mult=>exact PySem.P.mul_int (hQ _ h.2) (IJ h.1.1 h.1.2)
 |FloorDiv=>exact floordiv_int h.1.1 (hQ _ h.2) (.inl (PyProof.noPylong_small h.1.2.2))
 |Mod=>exact mod_int' h.1 (hQ _ h.2)
 |Pow=>
  refine pow_int h.1.1 ?_ (hQ _ h.2)
  have h1:=wG (show a.natAbs<2^62 from h.1.2.2)
  exact aW (Int.mul_le_mul (bN.mpr (intBits_le_64 (Int.lt_trans (by decide) h1.1) (Int.lt_trans h1.2 (by decide)))) h.1.2.1 h.1.1 (by decide)) (by decide)
 |LShift=>
  have h1:a.natAbs<2^62:=h.1.2.2
  exact lshift_int_small h.1.1 (aW h.1.2.1 (by decide)) (b8 h1 (by decide)) (hQ _ h.2)
 |RShift=>exact rshift_int h.1 (hQ _ h.2)
 |BitAnd=>exact and_int (hQ _ h)
 |BitOr=>exact or_int (hQ _ h)
 |BitXor=>exact xor_int (hQ _ h)
 |MatMult=>exact h.elim
 |Div=>exact h.elim
theorem ye(a b:List Nat):(⟨a.toArray⟩:Str)++⟨b.toArray⟩=⟨(a++b).toArray⟩:=by
 show Str.append _ _=_
 unfold Str.append
 rw[List.append_toArray]
theorem dp(a:List Nat):(⟨a.toArray⟩:Str).length=a.length:=cA
theorem nC{a b:List Nat}{t u:Tok}(hl:(a++b).length≤bS)(k:K (.str (a++b)) hp)(r:R B W hp s)(P:dH B W s K Q):
  (if(⟨a.toArray⟩:Str).length==0 then Made.val (.str ⟨b.toArray⟩ u)else if(⟨b.toArray⟩:Str).length==0 then Made.val (.str ⟨a.toArray⟩ t)else Made.str ((⟨a.toArray⟩:Str)++⟨b.toArray⟩)).post Q s:=by
 rw[ye]
 cases a with
 |nil=>exact P.here r k (.mk u hl)
 |cons x a=>cases b with
  |nil=>rw[bk]at hl k;exact P.here r k (.mk t hl)
  |cons y b=>exact⟨eO (dp _▸hl),P.toks r k (.mk _ hl)⟩
theorem bI.rep{α β:Type}{r:α→β→Prop}{vs:List α}{us:List β}(x:bI r vs us)(k:Nat):bI r (cH k vs).flatten (cH k us).flatten:=by
 induction k with
 |zero=>exact .nil
 |succ k ih=>exact bI.append x ih
theorem uw{l:aB}{items:Array Value}{k:Nat}{x:Int}{u:Tok}(hl:s.heap.get? l=some {cls:= .type "list",dict:=none,data:= .seq items k,slots:= #[]})
  (hx:x.natAbs<2^62) (hsz:items.size*x.toNat≤bS) (h:Q (.ref s.heap.objs.size) {s with heap:=s.heap.push {cls:= .type "list",data:= .seq (cH x.toNat items.toList).flatten.toArray}}):
  ar (model B.prog B.w) A (binaryOp .Mult (.ref l) (.int x u)) Q E s:=by
 have e:=listMul_foldl_if items x.toNat
 refine wpAny_binaryOp_repeat_ref (T:="list") (U:="int") (by decide) ⟨_,hl,rfl⟩ (fun s'=>typeIs_int s' x u) noFill_list_mul F.fills_int_mul F.slot_int_rmul repeat_list F.slot_int_index.lookup
  (call_meets F.slot_int_rmul (typeIs_int s x u) F.entry_int_rmul (F.args_int_rmul_2 _ _) (int___rmul___int_list x u l items k)
   ⟨hl,rfl,⟨_,hl,rfl⟩,call_meets F.slot_list_mul ⟨_,hl,rfl⟩ F.entry_list_mul (F.args_list_mul_2 _ _)
    (AutoListH.list___mul___list_int_3 l items k x u (by have b:=wG hx;unfold Builtin.List.listFitsIndex;rw[decide_eq_true (cn (Int.lt_trans (by decide) b.1)),decide_eq_true (Int.lt_trans b.2 (by decide))];decide) (bY.mpr (ad hsz (by decide))) (fun z=>absurd (of_decide_eq_true z) (bY.mpr (ad hsz (by rw[sizeLine_eq];decide)))))
    ⟨hl,?_⟩⟩)
 rw[e]
 exact h
@[elab_as_elim] theorem zy{op:Operator}{p:Prop}{C:Operator→Prop}(h:cond (tn op) p False)(k:p→C .Add):C op:=by cases op<;>first|exact h.elim|exact k h
@[elab_as_elim] theorem Af{op:Operator}{p:Prop}{C:Operator→Prop}(h:cond (yU op) p False)(k:p→C .Mult):C op:=by cases op<;>first|exact h.elim|exact k h
theorem rk{own:Bool}{op:Operator}{a b:V}{va vb:Value}(h:kj hp a (H3 own op b hp K))(r:R B W hp s)(ra:a7 W va a)(rb:a7 W vb b)(P:dH B W s K Q):ar (model B.prog B.w) A (binaryOp op va vb) Q E s:=by
 refine kT r ra h fun t l h ra=> ?_
 have add:cond (tn op) (jn t hp b fun l'=>kD own t (l++l') hp K) False→ar (model B.prog B.w) A (binaryOp op va vb) Q E s:=fun h=>zy h fun h=>iZ r rb h fun l' h rb=>ra.elim fun x its n hx M r1=>rb.elim fun y its2 m hy M r2=>PySem.P.add_list hx hy
   ((show its++its2=(its.toList++its2.toList).toArray from Array.ext' Array.toList_append)▸j6 (n:=0) (tk:=s.toks) h r (bI.append r1 r2) P)
   (eO (by rw[←aN,←aN,r1.length,r2.length,←ak];exact h.1))
 cases b with
 |int n=>exact Af h fun h=>ra.elim fun x its k hx M r1=>dT.elim rb fun u=>uw hx h.1.1 (by rw[←aN,r1.length];exact h.1.2) (j6 (n:=0) (tk:=s.toks) h.2 r (r1.rep _) P)
 |_=>exact add h
theorem F5(c:Nat)(n:Int):PySem.Txt.mul ⟨#[c]⟩ n=⟨(cH n.toNat c).toArray⟩:=by
 unfold PySem.Txt.mul
 by_cases h:n<1
 ·rw[if_pos h,Int.toNat_eq_zero.mpr (Int.le_of_lt_add_one h)]
  rfl
 ·rw[if_neg h]
  have f: ∀(k:Nat) (x:Array Nat),((cH k #[c]).foldl (· ++ ·) x)=x++(cH k c).toArray:=fun k=>by
   induction k with
   |zero=>exact fun x=>(Array.append_empty).symm
   |succ k ih=>exact fun x=>(ih (x++ #[c])).trans ((Array.append_assoc ..).trans (congrArg (x++ ·) (List.append_toArray [c] (cH k c))))
  by_cases h1:(n==1||(⟨#[c]⟩:Str).length==0)=true
  ·rw[if_pos h1]
   have:n=1:=eq_of_beq ((Bool.or_eq_true _ _▸h1).resolve_right (fun z=>nomatch z))
   rw[this]
   rfl
  ·rw[if_neg h1,f,Array.empty_append]
theorem yF{c:Nat}{n:Int}{t u:Tok}(h:(aH n∧n.toNat≤bS)∧K (.str (cH n.toNat c)) hp)(r:R B W hp s)(P:dH B W s K Q):ar (model B.prog B.w) A (binaryOp .Mult (.str ⟨#[c]⟩ t) (.int n u)) Q E s:=by
 have h1:n.natAbs<2^62:=h.1.1
 refine PySem.SB.mul (mulOk_of 1 bS (av 1) (Int.toNat_le.mp h.1.2) (cn (Int.lt_trans (by decide) (wG h1).1)) (by decide) (by decide)) fun t' k=> ?_
 rw[F5]
 exact P.toks r h.2 (.mk _ (by rw[List.length_replicate];exact h.1.2))
theorem zp{own:Bool}{op:Operator}{a b:V}{va vb:Value}(h:Oc own op a b hp K)(r:R B W hp s)(ra:a7 W va a)(rb:a7 W vb b)(P:dH B W s K Q):ar (model B.prog B.w) A (binaryOp op va vb) Q E s:=by
 cases a with
 |int a=>exact dA (C:=fun b=>a7 W vb b→_) h (fun b h rb=>dT.elim ra fun t=>dT.elim rb fun u=>zq (K:=fun r=>K (.int r) hp) h fun i k=>P.toks r k (.mk _)) rb
 |str a=>
  have add:gU b (fun b=>cond (tn op) ((a++b).length≤bS∧K (.str (a++b)) hp) False)→ar (model B.prog B.w) A (binaryOp op va vb) Q E s:=fun h=>fj (C:=fun b=>a7 W vb b→_) h (fun b h rb=>eJ.elim ra fun t M=>eJ.elim rb fun u M=>zy h fun h=>PySem.P.add_str (nC h.1 h.2 r P)) rb
  induction b using V.casesOn with
  |int n=>exact eA (C:=fun a=>a7 W va (.str a)→_) h (fun c h ra=>Af h fun h=>eJ.elim ra fun t M=>dT.elim rb fun u=>yF h r P) ra
  |_=>exact add h
 |lst t l=>exact rk (show kj hp (.lst t l) (H3 own op b hp K)from h) r ra rb P
 |own n=>exact rk (show kj hp (.own n) (H3 own op b hp K)from h) r ra rb P
 |_=>exact h.elim
theorem mW{t:Ty}{l:List (den t)}{va:Value}{Q:Bool→ag→Prop}(q:jI W s t l va)(hQ: ∀t,Q (!l.isEmpty) {s with toks:=t}):ar (model B.prog B.w) A (truthy va) Q E s:=
 q.elim fun a its n hx hz rs=>wpAny_truthy_list ⟨_,hx,rfl,n,rfl⟩ (mS hz) (by
  have:its.isEmpty=l.isEmpty:=by
   have e1:=rs.length
   obtain⟨xs⟩:=its
   cases xs<;>cases l<;>first|rfl|cases e1
  rw[this]
  exact hQ _)
@[elab_as_elim] theorem Bh{o:Option AO}{b:Bool}(h:CK o=some b){C:Bool→Prop}(k: ∀t (l:List (den t)),o=some (.list t l)→C (!l.isEmpty)):C b:=by
 cases o with
 |none=>cases h
 |some o=>cases o with
  |list t l=>exact af h▸k t l rfl
  |_=>cases h
theorem mV{v:V}{va:Value}{b:Bool}{Q:Bool→ag→Prop}(h:yb hp v=some b)(r:R B W hp s)(q:a7 W va v)(hQ: ∀t,Q b {s with toks:=t}):ar (model B.prog B.w) A (truthy va) Q E s:=by
 cases v with
 |none=>cases h;cases q;exact fun M M M=>hQ s.toks
 |bool c=>cases h;cases q;exact wpAny_truthy_bool (hQ s.toks)
 |int i=>cases h;exact dT.elim q fun t=>PySem.P.truthy_int (hQ s.toks)
 |str l=>
  cases h
  exact eJ.elim q fun t hl=>PySem.P.truthy_str (by rw[dp];exact Int.not_le.mpr (mS hl)) (by rw[dp,show((l.length:Int)!=0)= !l.isEmpty by cases l<;>rfl];exact hQ _)
 |lst t l=>cases h;exact mW (r.lis q) hQ
 |own n=>exact Bh (C:=fun b=>(∀t,Q b {s with toks:=t})→_) h (fun t l e hQ=>mW (r.own q e fun a M r=>lZ.lis r) hQ) hQ
 |_=>cases h
theorem Bc{op:UnaryOp}{a:V}{va:Value}(h:PQ op a hp K)(r:R B W hp s)(q:a7 W va a)(P:dH B W s K Q):ar (model B.prog B.w) A (unaryOp op va) Q E s:=by
 cases op with
 |USub=>exact dA (C:=fun a=>a7 W va a→_) h (fun i h q=>dT.elim q fun t=>PySem.P.neg_int (P.toks r h (.mk _))) q
 |Invert=>exact dA (C:=fun a=>a7 W va a→_) h (fun i h q=>dT.elim q fun t=>invert_int (P.toks r h (.mk _))) q
 |Not=>exact bO h fun b hb h=>not_of (mV hb r q fun t=>P.toks r h rfl)
 |UAdd=>exact h.elim
end
section
variable{B:bW}{W:Wd}{hp:Hp}{s:ag}{A:bv}{E:Value→ag→Prop}{Q:Value→ag→Prop}{K:Bool→Prop}
theorem ww{h:dq}{α:Type}{R:Value→α→Prop}{f:α→PyData}(hf: ∀v d,R v d→∃as,Reads h v (f d) as){vs:List Value}{us:List α}(r:bI R vs us): ∃as,ReadsAll h vs (us.map f) as:=by
 induction r with
 |nil=>exact⟨_,.nil⟩
 |cons a _ ih=>exact(hf _ _ a).elim fun M x=>ih.elim fun M y=>⟨_,.cons x y⟩
theorem iX{h:dq}{P:Value→Prop}{Q:List Value→Prop}{x:PyData}{y:List PyData}{l:List Value}(r:fM P Q l)(hp: ∀v,P v→∃as,Reads h v x as)(hq: ∀l,Q l→∃as,ReadsAll h l y as): ∃as,ReadsAll h l (x::y) as:=
 fM.elim (C:=fun l=>∃as,ReadsAll h l (x::y) as) r fun v r p q=>(hp v p).elim fun M a=>(hq r q).elim fun M b=>⟨_,.cons a b⟩
theorem m7{h:dq}{F:Fz}(hs: ∀a o,F a=some o→h.get? a=some o){P:List Value→Prop}{va:Value}{y:List PyData}(r:eD "tuple" F P va)(hp: ∀l,P l→∃as,ReadsAll h l y as): ∃as,Reads h va (.tuple y) as:=
 eD.elim r fun a i n ho M q=>(hp _ q).elim fun M x=>⟨_,.tuple (hs _ _ ho) rfl rfl x⟩
theorem D2.reads{h:dq}{F:Fz}(hs: ∀a o,F a=some o→h.get? a=some o)(t:Ty):(∀{d v},(D2 F t).1 d v→∃as,Reads h v (dat t d) as)∧∀{d l},(D2 F t).2 d l→∃as,ReadsAll h l (kH t d).2 as:=by
 induction t with
 |int=>exact⟨fun r=>dT.elim r fun t=>⟨_,.int _ t⟩,fun r=>r.elim⟩
 |str=>exact⟨fun r=>eJ.elim r fun t M=>⟨_,.str _ t⟩,fun r=>r.elim⟩
 |bool=>exact⟨fun{d v} r=>(show v= .bool d from r)▸⟨_,.bool _⟩,fun r=>r.elim⟩
 |one a ih=>exact⟨fun r=>m7 hs r fun M r=>iX r (fun M=>ih.1) fun l e=>(show l=[]from e)▸⟨_,.nil⟩,fun r=>iX r (fun M=>ih.1) fun l e=>(show l=[]from e)▸⟨_,.nil⟩⟩
 |cons a b ia ib=>exact⟨fun r=>m7 hs r fun M r=>iX r (fun M=>ia.1) fun M=>ib.2,fun r=>iX r (fun M=>ia.1) fun M=>ib.2⟩
 |list t ih=>exact⟨fun r=>eD.elim r fun a i n ho M r=>(ww (f:=dat t) (fun M M=>ih.1) r).elim fun M x=>⟨_,.list (hs _ _ ho) rfl rfl x⟩,fun r=>r.elim⟩
 |alt a b ia ib=>exact⟨fun{d v} r=>by cases d with |inl d=>exact ia.1 r|inr d=>exact ib.1 r,fun{d v} r=>by cases d with |inl d=>exact ia.2 r|inr d=>exact ib.2 r⟩
theorem HD{o:AO}{d:PyData}(h:NW o=some d): ∃t l,o= .list t l∧d=dat (.list t) l:=by
 induction o using AO.casesOn with
 |list t l=>exact⟨t,l,rfl,(af h).symm⟩
 |_=>injection h
theorem V2.reads(R:R B W hp s)(v:V):(∀{va d},(V2 W v).1 va→o1 hp v=some d→∃as,Reads s.heap va d.1 as)∧∀{l d},(V2 W v).2 l→o1 hp v=some d→∃as,ReadsAll s.heap l d.2 as:=by
 induction v with
 |none=>exact⟨fun{va d} r h=>af h▸(show va= .none from r)▸⟨_,.none⟩,fun r=>r.elim⟩
 |int i=>exact⟨fun r h=>af h▸dT.elim r fun t=>⟨_,.int _ t⟩,fun r=>r.elim⟩
 |str i=>exact⟨fun r h=>af h▸eJ.elim r fun t M=>⟨_,.str _ t⟩,fun r=>r.elim⟩
 |bool b=>exact⟨fun{va d} r h=>af h▸(show va= .bool b from r)▸⟨_,.bool _⟩,fun r=>r.elim⟩
 |t0=>exact⟨fun r h=>af h▸m7 R.sub r fun l e=>(show l=[]from e)▸⟨_,.nil⟩,fun{l d} r h=>af h▸(show l=[]from r)▸⟨_,.nil⟩⟩
 |tc a b ia ib=>
  refine⟨fun r h=> ?_,fun r h=> ?_⟩<;>obtain⟨x,hx,h⟩:=Option.bind_eq_some_iff.mp h<;>obtain⟨y,hy,rfl⟩:=bG.mp h
  ·exact m7 R.sub r fun M r=>iX r (fun M r=>ia.1 r hx) fun M r=>ib.2 r hy
  ·exact iX r (fun M r=>ia.1 r hx) fun M r=>ib.2 r hy
 |lst t l=>exact⟨fun r h=>af h▸(D2.reads R.sub (.list t)).1 r,fun r=>r.elim⟩
 |own n=>exact⟨fun r h=>by
   refine kP h fun d h1 z1z=> ?_
   obtain rfl:=z1z
   refine jD h1 fun o e h2=> ?_
   obtain⟨t,l,rfl,rfl⟩:=HD h2
   exact R.own r e fun a M q=>by cases q with |mk i n ho z q=>exact(ww (f:=dat t) (fun M M=>(D2.reads R.sub t).1) q).elim fun M x=>⟨_,.list ho rfl rfl x⟩,fun r=>r.elim⟩
 |_=>exact⟨fun M h=>(nomatch h),fun M h=>(nomatch h)⟩
theorem o6{a b:V}{va vb:Value}(h:E4 hp a b K)(R:R B W hp s)(ra:a7 W va a)(rb:a7 W vb b)(hu:A.units+64<cLine)(ne:Bool)
  (hQ: ∀c,K c→Q (.bool (cond ne (!c) c)) s):ar (model B.prog B.w) A (compareOp (cond ne .NotEq .Eq) va vb) Q E s:=by
 have data:(fN (o1 hp a) fun x=>fN (o1 hp b) fun y=>(bc x.1=true∧bc y.1=true)∧K (PyData.eqv x.1 y.1))→ar (model B.prog B.w) A (compareOp (cond ne .NotEq .Eq) va vb) Q E s:=
  fun h=>bO h fun x hx h=>bO h fun y hy h=>((V2.reads R a).1 ra hx).elim fun M rx=>((V2.reads R b).1 rb hy).elim fun M ry=>by
   induction ne using ah with
   |true=>exact ne_dataH rx ry h.1.1 h.1.2 hu (hQ _ h.2)
   |false=>exact eq_dataH rx ry h.1.1 h.1.2 hu (hQ _ h.2)
 induction a using V.casesOn with
 |int x=>exact dA h (fun y h rb=>dT.elim ra fun t=>dT.elim rb fun u=>by
   induction ne using ah with
   |true=>exact PySem.P.ne_int (hQ _ h)
   |false=>exact PySem.P.eq_int (hQ _ h)) rb
 |str x=>exact fj h (fun y h rb=>eJ.elim ra fun t M=>eJ.elim rb fun u M=>by
   induction ne using ah with
   |true=>exact PySem.P.ne_str (hQ _ h)
   |false=>exact PySem.P.eq_str (hQ _ h)) rb
 |_=>exact data h
noncomputable def oZ(a:Int):Value→Bool
 | .int b M=>b==a
 |M=>false
theorem KH{F:Fz}{a:Int}{l:List Int}{vs:List Value}(r:bI (ff F .int) vs l):(∀y∈vs,∃b t,y= .int b t)∧vs.any (oZ a)=l.contains a:=by
 induction r with
 |nil=>exact⟨m9,rfl⟩
 | @cons v u vs us r _ ih=>exact dT.elim (C:=fun v=>(∀y∈v::vs,∃b t,y= .int b t)∧(v::vs).any (oZ a)=(u::us).contains a) r fun t=>⟨fun y m=>(aX.mp m).elim (fun e=>⟨u,t,e⟩) (ih.1 y),by
   rw[List.any_cons,ih.2,List.contains_cons];congr 1;exact Bool.beq_comm⟩
theorem An{F:Fz}{a:Int}{l:List Int}{its:Array Value}(r:bI (ff F .int) its.toList l):(∀y∈its,∃b t,y= .int b t)∧its.any (oZ a)=l.contains a:=
 have q:=KH (a:=a) r
 ⟨fun y m=>q.1 y (Array.mem_toList_iff.mpr m),Array.any_toList.symm.trans q.2⟩
theorem D4{x:Int}{t:Tok}{its:Array Value}(q: ∀y∈its,∃b u,y= .int b u): ∀y∈its,MeetsSeq.EqGives y (.int x t) (oZ x y):=fun y m=>by
 obtain⟨b,u,e⟩:=q y m
 rw[e]
 exact MeetsSeq.EqGives.int b x u t
theorem D1{v:V}: ∀{l:List Int} {vs:List Value},D3 v=some l→fJ W vs v→bI (ff W.F .int) vs l:=by
 induction v with
 |t0=>
  intro l vs h r
  obtain rfl:=af h
  obtain rfl:vs=[]:=r
  exact .nil
 |tc a r _ ih=>
  intro l vs h rs
  induction a using V.casesOn with
  |int i=>
   obtain⟨l',e,rfl⟩:=bG.mp h
   exact fM.elim (C:=fun vs=>bI (ff W.F .int) vs (i::l')) rs fun v t r1 r2=> .cons r1 (ih e r2)
  |_=>exact nomatch h
 |_=>exact fun h=>nomatch h
theorem z6{r:aB}{a b c i:Int}{t u v w:Tok}:Meets (Builtin.«range.__contains__» ⟨[.ref r,.int i w],[]⟩) (fun M R s=>IsRange s.heap r a b c t u v∧R (.ok (.ret (.bool (Builtin.Range.rangePlace? a b c i).isSome))) s):=Meets.of_wp fun prog w A R s hS=>by
 unfold Builtin.«range.__contains__»
 refine aa (m:=slotArgs _ _ _) (bq (a:=(.ref r,[.int i _])) (by rfl) ?_)
 refine aa (m:=rule _) (wpAny_rule ?_)
 refine aa (m:=Builtin.Range.rangeFields _) ?_
 unfold Builtin.Range.rangeFields
 refine aa (wpAny_field hS.1 rfl (x:= .int a t) rfl ?_)
 refine aa (bq (a:=some a) (by rfl) ?_)
 refine aa (wpAny_field hS.1 rfl (x:= .int b u) rfl ?_)
 refine aa (bq (a:=some b) (by rfl) ?_)
 refine aa (wpAny_field hS.1 rfl (x:= .int c v) rfl ?_)
 refine aa (bq (a:=some c) (by rfl) ?_)
 exact ao (ao ⟨_,rfl,hS.2⟩)
theorem o5{a b:V}{va vb:Value}(h:E3 hp a b K)(R:R B W hp s)(ra:a7 W va a)(rb:a7 W vb b)(ne:Bool)
  (hQ: ∀c,K c→Q (.bool (cond ne (!c) c)) s):ar (model B.prog B.w) A (compareOp (cond ne .NotIn .In) va vb) Q E s:=by
 have str:gU a (fun x=>iE x fun c=>gU b fun y=>K (y.contains c))→ar (model B.prog B.w) A (compareOp (cond ne .NotIn .In) va vb) Q E s:=fun h=>fj h (fun x h ra=>eJ.elim ra fun t M=>eA h fun c h=>fj h (fun y h rb=>eJ.elim rb fun u M=>by
   induction ne using ah with
   |true=>exact PySem.P.notIn_str (by rw[StrLaws.found_one,←List.contains_eq_mem];exact hQ _ h)
   |false=>exact PySem.P.in_str (by rw[StrLaws.found_one,←List.contains_eq_mem];exact hQ _ h)) rb) ra
 induction a using V.casesOn with
 |int x=>
  have lis:jn .int hp b (fun l=>K (l.contains x))→ar (model B.prog B.w) A (compareOp (cond ne .NotIn .In) va vb) Q E s:=fun h=>iZ R rb h fun l h rb=>dT.elim ra fun t=>jI.elim rb fun y its n hx M r=>(by
   have q:=An (a:=x) r
   have g:=D4 (x:=x) (t:=t) q.1
   induction ne using ah with
   |true=>exact SeqInW.notIn_listW (oZ x) g ⟨_,hx,rfl,_,rfl⟩ (q.2▸hQ _ h)
   |false=>exact PySem.SeqRoads2.in_list (oZ x) g hx (q.2▸hQ _ h))
  induction b using V.casesOn with
  |tc a r=>exact bO h fun l hl h=>dT.elim ra fun t=>eD.elim (show eD "tuple" W.F _ vb from rb) fun y its n ho M rs=>(by
    have q:=An (a:=x) (D1 hl rs)
    have g:=D4 (x:=x) (t:=t) q.1
    have hx:=R.sub _ _ ho
    induction ne using ah with
    |true=>exact PySem.SeqRoads2.notIn_tuple (oZ x) g hx (q.2▸hQ _ h)
    |false=>exact PySem.SeqRoads2.in_tuple (oZ x) g hx (q.2▸hQ _ h))
  |rng lo hi st=>exact dT.elim ra fun w=>(by
    obtain⟨r,t,u,v,ho⟩:=(show Ii W.F lo hi st vb from rb)
    have hx:=R.sub _ _ ho
    induction ne using ah with
    |true=>exact PySem.SeqRoads2.notIn_meets ⟨_,hx,rfl⟩ F.slot_range_contains F.entry_range_contains (F.args_range_contains_2 _ _) (z6 (t:=t) (u:=u) (v:=v)) ⟨hx,_,rfl,hQ _ h⟩
    |false=>exact PySem.SeqRoads2.in_meets ⟨_,hx,rfl⟩ F.slot_range_contains F.entry_range_contains (F.args_range_contains_2 _ _) (z6 (t:=t) (u:=u) (v:=v)) ⟨hx,_,rfl,hQ _ h⟩)
  |_=>exact lis h
 |str x=>exact str h
 |_=>exact h.elim
theorem DD{v:V}{va:Value}(h:IH v K)(r:a7 W va v):K (va== .none)∧plainIs va .none=true:=by
 induction v using V.casesOn with
 |none=>obtain rfl:=(show va= .none from r);exact⟨h,rfl⟩
 |str x=>exact eJ.elim r fun M M=>⟨h,rfl⟩
 |int x=>exact dT.elim r fun M=>⟨h,rfl⟩
 |own x=>exact xI.elim r fun M M=>⟨h,rfl⟩
 |tc a b=>exact eD.elim (show eD "tuple" W.F _ va from r) fun M M M M M M=>⟨h,rfl⟩
 |_=>exact h.elim
@[elab_as_elim] theorem FZ{C:V→Prop}{f:Value→Prop}{v:V}(h:Mc v f)(k: ∀i,f i→C (.val i)):C v:=by induction v using V.casesOn with |val i=>exact k i h|_=>exact h.elim
@[elab_as_elim] theorem zN{C:Value→Prop}{f:String→Prop}{v:Value}(h:Jw v f)(k: ∀i,f i→C (.type i)):C v:=by induction v using PySem.Value.casesOn with |type i=>exact k i h|_=>exact h.elim
theorem vM(U T:String):(Value.type U==Value.type T)=(U==T):=by
 by_cases e:U=T
 ·rw[e,beq_self_eq_true,beq_self_eq_true]
 ·rw[beq_false_of_ne e,beq_false_of_ne fun z=>e (Value.type.inj z)]
theorem E2{a b:V}{va vb:Value}(h:AN a b K)(ra:a7 W va a)(rb:a7 W vb b):K (va==vb)∧plainIs va vb=true:=by
 induction b using V.casesOn with
 |none=>exact(show vb= .none from rb)▸DD h ra
 |bool y=>exact(show vb= .bool y from rb)▸nH h (fun x h ra=>(show va= .bool x from ra)▸⟨(show(Value.bool x==Value.bool y)=(x==y) by rcases x with _|_<;>rcases y with _|_<;>rfl)▸h,rfl⟩) ra
 |val y=>exact(show vb=y from rb)▸zN h fun y h=>FZ h (fun x h ra=>(show va=x from ra)▸zN h fun x h=>⟨vM x y▸h,rfl⟩) ra
 |_=>exact h.elim
theorem o4{a b:V}{va vb:Value}(h:AN a b K)(ra:a7 W va a)(rb:a7 W vb b)(ne:Bool)
  (hQ: ∀c,K c→Q (.bool (cond ne (!c) c)) s):ar (model B.prog B.w) A (compareOp (cond ne .IsNot .Is) va vb) Q E s:=by
 have p:=E2 h ra rb
 induction ne using ah with
 |true=>exact wpAny_isNot_plain p.2 (hQ _ p.1)
 |false=>exact wpAny_is_plain p.2 (hQ _ p.1)
theorem pQ{a b:V}{K:Int→Int→Prop}{va vb:Value}{C:Value→Value→Prop}(h:xu a b K)(ra:a7 W va a)(rb:a7 W vb b)(k: ∀x t y u,K x y→C (.int x t) (.int y u)):C va vb:=
 dA h (fun x h ra=>dA h (fun y h rb=>dT.elim ra fun t=>dT.elim rb fun u=>k x t y u h) rb) ra
theorem je{op:CmpOp}{a b:V}{va vb:Value}(h:E1 op a b hp K)(R:R B W hp s)(ra:a7 W va a)(rb:a7 W vb b)(hu:A.units+64<cLine)(hQ: ∀c,K c→Q (.bool c) s):
  ar (model B.prog B.w) A (compareOp op va vb) Q E s:=by
 induction op using PySem.CmpOp.casesOn with
 |Lt=>exact pQ (C:=fun va vb=>ar (model B.prog B.w) A (compareOp .Lt va vb) Q E s) h ra rb fun x t y u k=>PySem.P.lt_int (hQ _ k)
 |LtE=>exact pQ (C:=fun va vb=>ar (model B.prog B.w) A (compareOp .LtE va vb) Q E s) h ra rb fun x t y u k=>PySem.P.le_int (hQ _ k)
 |Gt=>exact pQ (C:=fun va vb=>ar (model B.prog B.w) A (compareOp .Gt va vb) Q E s) h ra rb fun x t y u k=>PySem.P.gt_int (hQ _ k)
 |GtE=>exact pQ (C:=fun va vb=>ar (model B.prog B.w) A (compareOp .GtE va vb) Q E s) h ra rb fun x t y u k=>PySem.P.ge_int (hQ _ k)
 |Eq=>exact o6 h R ra rb hu false hQ
 |NotEq=>exact o6 (K:=fun c=>K (!c)) h R ra rb hu true fun c=>hQ (!c)
 |In=>exact o5 h R ra rb false hQ
 |NotIn=>exact o5 (K:=fun c=>K (!c)) h R ra rb true fun c=>hQ (!c)
 |Is=>exact o4 h ra rb false hQ
 |IsNot=>exact o4 (K:=fun c=>K (!c)) h ra rb true fun c=>hQ (!c)
end
section
variable{B:bW}{W:Wd}{hp:Hp}{s:ag}{A:bv}{E:Value→ag→Prop}{Q:Value→ag→Prop}
theorem mD{n:Nat}{i:Int}{k:Nat}(h:eQ n i=some k):(0≤i∧i<n∧k=i.toNat)∨(i<0∧ -(n:Int)≤i∧k=(i+n).toNat):=by
 unfold eQ at h
 by_cases hi:i<0
 ·by_cases h2:i+n<0
  ·rw[MeetsSeq.seqIndex_none_lo h2]at h;injection h
  ·rw[PySem.MeetsSeq.seqIndex_neg hi (dh.mp h2)]at h
   exact .inr ⟨hi,Int.sub_nonneg.mp (by rw[Int.sub_neg];exact dh.mp h2),(af h).symm⟩
 ·by_cases h2:(n:Int)≤i
  ·rw[MeetsSeq.seqIndex_none_hi h2]at h;injection h
  ·rw[PySem.seqIndex_of (dh.mp hi) (Int.not_le.mp h2)]at h
   exact .inl ⟨dh.mp hi,Int.not_le.mp h2,(af h).symm⟩
theorem ju{n:Nat}{i:Int}{k:Nat}(h:eQ n i=some k)(hn:n≤bS): -(2^63)≤i∧i<2^63:=
 have b:(n:Int)≤2^63:=cn (mS hn)
 (mD h).elim (fun z=>⟨aW (by decide) z.1,Int.lt_of_lt_of_le z.2.1 b⟩) fun z=>⟨aW (Int.neg_le_neg b) z.2.1,Int.lt_trans z.1 (by decide)⟩
theorem Dp{n:Nat}{i:Int}{k:Nat}(h:eQ n i=some k):k<n:=
 (mD h).elim (fun z=>z.2.2▸(Int.toNat_lt z.1).mpr z.2.1) fun z=>z.2.2▸(Int.toNat_lt (by rw[←Int.sub_neg];exact Int.sub_nonneg.mpr z.2.1)).mpr (Int.lt_of_lt_of_le (Int.add_lt_add_right z.1 n) (Int.le_of_eq (Int.zero_add _)))
theorem pK{α:Type}{l:List α}{i:Int}(h:fy l.length i)(d:α): ∃k,eQ l.length i=some k∧l[k]? =some (getD l i d):=by
 refine(Option.isSome_iff_exists.mp h).elim fun k e=> ?_
 have q:=aR (Dp e)
 exact⟨k,e,by show l[k]? =some (((eQ l.length i).bind (l[·]?)).getD d);rw[e,Option.bind_some,q];rfl⟩
theorem ss{a:aB}{its:Array Value}{n:Nat}{i:Int}{t:Tok}{k:Nat}{v:Value}(hl:IsL s.heap a its n)(hz:its.size≤bS)(hk:eQ its.size i=some k)(hv:its[k]? =some v)(hQ:Q v s):
  ar (model B.prog B.w) A (getItem (.ref a) (.int i t)) Q E s:=by
 have r:=ju hk hz
 exact(mD hk).elim (fun z=>wpAny_getItem_list hl.isList z.1 r.2 (z.2.2▸hv) hQ) fun z=>wpAny_getItem_list_neg hl.isList z.1 z.2.1 r.1 (z.2.2▸hv) hQ
theorem qR{t:Ty}{l:List (den t)}{i:Int}{tk:Tok}{va:Value}{K:V→Prop}(q:jI W s t l va)(h:Hk t l i K)(hQ: ∀v va,K v→a7 W va v→Q va s):
  ar (model B.prog B.w) A (getItem va (.int i tk)) Q E s:=by
 refine(pK h.1 (nu t)).elim fun m zz=>zz.elim fun hm hd=> ?_
 refine jI.elim q fun a its n hx hz r=> ?_
 obtain⟨w,hw,rw_⟩:=r.get hd
 rw[←r.length]at hm
 exact ss hx hz hm (cr▸hw) (hQ _ _ h.2 rw_.emb)
theorem tm{v:V}{vs:List Value}(r:fJ W vs v):dD W vs (items v):=by
 induction v generalizing vs with
 |tc a b _ ib=>exact fM.elim (C:=fun vs=>dD W vs (items (.tc a b))) r fun x l p q=> .cons p (ib q)
 |t0=>exact(show vs=[]from r)▸ .nil
 |_=>exact r.elim
theorem Hj{v:V}{i:Int}{K:V→Prop}{vs:List Value}(h:KT v i K)(r:dD W vs (items v)): ∃m u va,eQ vs.length i=some m∧vs[m]? =some va∧K u∧a7 W va u:=by
 unfold KT at h
 induction q:Jf v using aw with
 |none=>
  rw[q]at h
  exact bO h fun u e k=>by
   refine jD e fun m hm e=> ?_
   exact(r.get e).elim fun va q=>⟨m,u,va,r.length▸hm,q.1,k,q.2⟩
 |some t=>
  rw[q]at h
  refine CD r h fun l h r=> ?_
  refine(pK h.1 (nu t)).elim fun m zz=>zz.elim fun hm hd=> ?_
  exact(r.get hd).elim fun va q=>⟨m,_,va,r.length▸hm,q.1,h.2,q.2.emb⟩
theorem yY{n:Nat}{i:Int}{tk:Tok}{va:Value}{K:V→Prop}(h:KU i K hp[n]?)(r:R B W hp s)(ra:a7 W va (.own n))(hQ: ∀t v va,K v→a7 W va v→Q va {s with toks:=t}):
  ar (model B.prog B.w) A (getItem va (.int i tk)) Q E s:=by
 induction q:hp[n]? using aw with
 |none=>rw[q]at h;exact h.elim
 |some o=>
  rw[q]at h
  induction o using AO.casesOn with
  |list t l=>exact qR (r.own ra q fun a M r=>lZ.lis r) h (hQ s.toks)
  |_=>exact h.elim
theorem yX{a i:V}{va vi:Value}{K:V→Prop}(h:KS a i hp K)(r:R B W hp s)(ra:a7 W va a)(ri:a7 W vi i)(hQ: ∀t v va,K v→a7 W va v→Q va {s with toks:=t}):
  ar (model B.prog B.w) A (getItem va vi) Q E s:=by
 refine dA h (fun i h ri=>dT.elim ri fun t=> ?_) ri
 induction a using V.casesOn with
 |str x=>
  refine(pK h.1 0).elim fun m zz=>zz.elim fun hm hd=> ?_
  refine eJ.elim ra fun u hz=>PySem.P.getItem_str (c:=getD x i 0) ?_ ?_ (hQ _ _ _ h.2 (.mk _ (aq rfl)))
  ·have r:=ju hm hz
   rw[decide_eq_false (dh.mpr r.1),decide_eq_false (Int.not_le.mpr r.2)]
   rfl
  ·rw[dp]
   show(seqIndex? i x.length).bind _=_
   rw[show seqIndex? i x.length=some m from hm]
   exact List.getElem?_toArray.trans hd
 |tc a b=>
  refine r.tup ra fun a its n ho hz q=> ?_
  refine(Hj h (tm q)).elim fun m zz=>zz.elim fun v zz=>zz.elim fun va zz=>zz.elim fun hm zz=>zz.elim fun hv zz=>zz.elim fun k rv=> ?_
  rw[aN]at hm
  have r:=ju hm hz
  exact PySem.P.getItem_tuple ho r.1 r.2 hm (cr▸hv) (hQ s.toks v va k rv)
 |lst t l=>exact qR (r.lis ra) h (hQ s.toks)
 |own n=>exact yY h r ra hQ
 |_=>exact h.elim
theorem zb{α:Type}(l:List α)(i j:Nat):(jG l i j).length≤l.length:=
 ad (List.length_take_le' ..) (by rw[List.length_drop];exact Nat.sub_le ..)
theorem nF{n d:Nat}{u:V}{va:Value}{f:Nat→Prop}(e:fN (bound n d u) f)(r:a7 W va u): ∃k lo,f k∧IsPart va lo∧k=lo.elim d (clipAt n):=by
 induction u using V.casesOn with
 |none=>exact⟨d,none,e,(show va= .none from r)▸ .none,rfl⟩
 |int i=>exact⟨_,some i,e,dT.elim r fun t=> .int i t,rfl⟩
 |_=>exact e.elim
theorem HE{α:Type}{l:List α}{i j:Nat}(h:j-i=l.length)(hj:j≤l.length):jG l i j=l:=by
 unfold jG
 by_cases hl:l.length=0
 ·rw[List.eq_nil_of_length_eq_zero hl,List.drop_nil,List.take_nil]
 ·have e:=Nat.eq_add_of_sub_eq (bJ (Nat.lt_of_sub_pos (h▸dB hl))) h
  obtain rfl:=Nat.le_zero.mp (Nat.le_of_add_le_add_left (ad (aC e.symm) hj))
  rw[List.drop_zero,List.take_of_length_le (aC h.symm)]
theorem qQ(s:ag)(vl vu:Value):dP s {s with heap:=s.heap.push {cls:= .type "slice",data:= .fields #[vl,vu,.none]}}:= .push s _ s.toks
theorem uc{own:Bool}{l u:V}{va vl vu:Value}{t:Ty}{x:List (den t)}{K:V→Hp→Prop}
  (h:rj x.length l u fun i j=>kD own t (jG x i j) hp K) (r:R B W hp s) (ra:jI W s t x va) (rl:a7 W vl l) (ru:a7 W vu u) (P:dH B W s K Q):
  ∃b items lo hi,va= .ref b∧s.heap.IsList b items∧items.size≤sizeLine∧IsPart vl lo∧IsPart vu hi∧
   Q (.ref (s.heap.objs.size+1)) {s with heap:=(s.heap.push {cls:= .type "slice",data:= .fields #[vl,vu,.none]}).push {cls:= .type "list",data:= .seq (slicePick items lo hi none)}}:=by
 refine(nF h rl).elim fun i zz=>zz.elim fun lo zz=>zz.elim fun h zz=>zz.elim fun pl el=> ?_
 obtain⟨j,hi,h,pu,eu⟩:=nF h ru
 refine jI.elim ra fun b its n hb hz rs=>⟨b,its,lo,hi,rfl,IsL.isList hb,eO hz,pl,pu,?_⟩
 have e:slicePick its lo hi none=(jG its.toList i j).toArray:=by
  have:=rs.length
  rw[aN]at this
  rw[slicePick_plain,this,←el,←eu];rfl
 have z:=qQ s vl vu
 have q:=j6 (n:=0) (tk:=s.toks) h (r.grow z) ((rs.drop i).take (j-i)) (P.after z.le)
 rw[dn]at q
 exact e▸q
noncomputable def Ad:Value→Option (Int×Tok)
 | .int i t=>some (i,t)
 |M=>none
theorem iQ{v:Value}{p:Option Int}(h:IsPart v p):v=partValue (Ad v)∧(Ad v).map (·.1)=p:=by rcases h with _|_<;>exact⟨rfl,rfl⟩
theorem Gl{x:List Nat}{lo hi:Option Int}:(Builtin.Str.strSliceIndices lo hi 1 x.length).filterMap ((⟨x⟩:Array Nat)[·]?)=jG x (lo.elim 0 (clipAt x.length)) (hi.elim x.length (clipAt x.length))∧
  (Builtin.Str.strSliceIndices lo hi 1 x.length).length=(hi.elim x.length (clipAt x.length))-(lo.elim 0 (clipAt x.length)):=by
 have e:Builtin.Str.strSliceIndices lo hi 1 x.length=sliceRange (sliceBounds lo hi none x.length).1 (sliceBounds lo hi none x.length).2.1 1:=rfl
 rw[e,sliceBounds_plain]
 simp only[sliceRange_one,pick_run]
 exact⟨rfl,by simp⟩
theorem ub{x:List Nat}{l u:V}{va vl vu:Value}{K:V→Hp→Prop}(h:rj x.length l u fun i j=>K (.str (jG x i j)) hp)
  (r:R B W hp s) (ra:a7 W va (.str x)) (rl:a7 W vl l) (ru:a7 W vu u) (P:dH B W s K Q):
  ∃y t l u,va= .str y t∧vl=partValue l∧vu=partValue u∧(sliceMade y t l u none).post Q {s with heap:=s.heap.push {cls:= .type "slice",data:= .fields #[vl,vu,.none]}}:=by
 obtain⟨i,lo,h,pl,el⟩:=nF h rl
 obtain⟨j,hi,h,pu,eu⟩:=nF h ru
 refine eJ.elim ra fun t hz=>⟨_,t,Ad vl,Ad vu,rfl,(iQ pl).1,(iQ pu).1,?_⟩
 have z:=qQ s vl vu
 have P:=P.after z.le
 have R:=r.grow z
 have q:=Gl (x:=x) (lo:=lo) (hi:=hi)
 rw[←el,←eu]at q
 unfold sliceMade slicePicked
 rw[(iQ pl).2,(iQ pu).2,dp]
 split
 ·rename_i w
  simp only[Option.map_none,Option.getD_none,cL,beq_iff_eq]at w
  have hj:j≤x.length:=by
   rw[eu];induction hi using aw with
   |none=>exact av _
   |some k=>exact Int.toNat_le.mpr (Int.max_le.mpr ⟨aK _,Int.min_le_right _ _⟩)
  rw[HE (q.2.symm.trans w.2) hj]at h
  exact P.here R h (.mk t hz)
 ·have hlen:(jG x i j).length≤bS:=ad (zb x i j) hz
  show Made.post (.str ⟨((Builtin.Str.strSliceIndices lo hi 1 x.length).filterMap ((⟨x⟩:Array Nat)[·]?)).toArray⟩) Q _
  rw[q.1]
  exact⟨eO (dp _▸hlen),P.toks R h (.mk _ hlen)⟩
end
section
variable{B:bW}{W:Wd}{hp:Hp}{s:ag}{A:bv}{E:Value→ag→Prop}{K:V→Hp→Prop}{Q:Value→ag→Prop}
theorem yN{v:V}{va:Value}(h:M2 hp v fun n=>K (.int n) hp)(R:R B W hp s)(r:a7 W va v)(P:dH B W s K Q):ar (model B.prog B.w) A (call (.builtin "len") [va]) Q E s:=by
 have lis:kj hp v (fun M l=>K (.int l.length) hp)→ar (model B.prog B.w) A (call (.builtin "len") [va]) Q E s:=fun h=>kT R r h fun t l h r=>jI.elim r fun a its n hl hz rs=>call_len_list ⟨_,hl,rfl,_,rfl⟩ (mS hz) (aN▸rs.length▸P.toks R h (.mk _))
 cases v with
 |str x=>exact eJ.elim r fun t hz=>PySem.P.len_str (dp x▸Int.not_le.mpr (mS hz)) (dp x▸P.toks R h (.mk _))
 |t0=>exact eD.elim (show eD "tuple" W.F _ va from r) fun a its n ho hz e=>PySem.P.len_tuple (R.sub _ _ ho) (Int.not_le.mpr (mS hz)) (by rw[show its.size=0 from aN.symm.trans (congrArg List.length e)];exact P.toks R h (.mk _))
 |tc a b=>exact R.tup r fun a its n ht hz rs=>PySem.P.len_tuple ht (Int.not_le.mpr (mS hz)) (aN▸(tm rs).length▸P.toks R h (.mk _))
 |lst t l=>exact lis h
 |own n=>exact lis h
 |_=>exact h.elim
theorem w4(i:Int):ae (toString i)=⟨(iR i).toArray⟩:=Str.ofString_eq_toList _
theorem w5{i:Int}(h:aH i):(iR i).length≤bS:=by
 have e:=int_text_length_le10 (a:=i) (k:=19) (by decide) (b8 h (by decide))
 unfold iR
 rw[aE,←String.length_toList.symm]
 exact ad e (by decide)
theorem yK{i:Int}(h:aH i):i.natAbs.log2<1920:=by
 rcases Nat.eq_zero_or_pos i.natAbs with e|e
 ·rw[e];decide
 ·exact b8 ((Nat.log2_lt (cx e)).mpr h) (by decide)
theorem k6{a b c:Int}{K:V→Prop}{t u v:Tok}{n:Nat}(h:K (.rng a b c))(R:R B W hp s)(P:dH B W s (fun v hp'=>K v∧hp'=hp) Q):
  Q (.ref s.heap.objs.size) {s with heap:=s.heap.push {cls:= .type "range",data:= .fields #[.int a t,.int b u,.int c v]},toks:=n}:=
 P.ins R (.push ..) (cc (av _)) (aF _ rfl) ⟨h,rfl⟩ (.mk _ t u v Fz.ins_at)
theorem uo{args:List V}{bw:List Value}{K:V→Prop}(h:Dl K args)(R:R B W hp s)(rs:dD W bw args)(P:dH B W s (fun v hp'=>K v∧hp'=hp) Q):
  ar (model B.prog B.w) A (call (.type "range") bw) Q E s:=by
 induction args using aO with
 |nil=>exact h.elim
 |cons a r=>induction r using aO with
  |nil=>exact rs.inv1 fun va ra=>dA h (fun b h ra=>dT.elim ra fun t=>call_range_1 (k6 h.2 R P)) ra
  |cons b r=>exact rs.inv fun va vs ra rs=>rs.inv fun vb vs rb rs=>dA h (fun a h ra=>dA h (fun b h rb=>dT.elim ra fun t=>dT.elim rb fun u=>by
    induction r using aO with
    |nil=>exact rs.inv0 (call_range_2 (k6 h.2 R P))
    |cons c r=>exact fV h (fun h rs=>rs.inv1 fun vc rc=>dA h (fun c h rc=>dT.elim rc fun v=>call_range_3 h.1.2.2.2 (k6 h.2 R P) (.inl (PyProof.noPylong_small h.1.2.2.1))) rc) rs) rb) ra
theorem w0{l:List Int}{vs:List Value}(r:bI (ff W.F .int) vs l): ∀(i:Nat) (v:Value),vs[i]? =some v→∃t,v=Value.int ((l[i]?).getD 0) t:=by
 induction r with
 |nil=>exact fun M M=>j5
 | @cons v u vs us r _ ih=>
  intro i w e
  induction i using Nat.casesOn with
  |zero=>exact af e▸dT.elim r fun t=>⟨t,rfl⟩
  |succ i=>exact ih i w e
theorem dH.walked(P:dH B W s K Q)(R:R B W hp s){v:V}{va:Value}{h':dq}{t:Nat}{os:List aB}{H:dq}(hO: ∀a∈os,s.heap.objs.size≤a)(hH: ∀b o,s.heap.get? b=some o→H.get? b=some o)
  (hk: ∀b o,b ∉ os→H.get? b=some o→h'.get? b=some o) (k:K v hp) (q:a7 W va v):Q va {s with heap:=h',toks:=t}:=
 P.same (s1:={s with heap:=h',toks:=t}) R ⟨fun b o e=>hk b o (fun m=>absurd (dK e) (bY.mpr (hO b m))) (hH b o e),rfl,rfl⟩ k q
theorem Dz{n:Nat}: ∀a∈[n],n≤a:=fun a h=>az.mp h▸av _
theorem Ay{a:aB}{items:Array Value}{n:Nat}{o:Obj}(hl:IsL s.heap a items n): ∀b∈[s.heap.objs.size,a],b<(s.heap.push o).objs.size:=fun b hb=>by
 rw[dn]
 exact(aX.mp hb).elim (fun e=>e▸Nat.lt_succ_self _) fun hb=>az.mp hb▸Nat.lt_succ_of_lt (dK hl)
theorem Bd{mx:Bool}{a b:Int}{t u:Tok}(h:K (.int (cond (cond mx OE LT b a) b a)) hp)(hh:A.handled=none)(R:R B W hp s)(P:dH B W s K Q):
  ar (model B.prog B.w) A (call (.builtin (cond mx "max" "min")) [.int a t,.int b u]) Q E s:=by
 have hP: ∀(i:Nat) (v:Value),#[Value.int a t,.int b u][i]? =some v→∃t,v=Value.int (([a,b][i]?).getD 0) t:=fun i v hv=>by
  rcases i with _|_|i
  ·exact⟨t,(af hv).symm⟩
  ·exact⟨u,(af hv).symm⟩
  ·injection hv
 have fin: ∀{f:Int→Int→Bool} {v:Value} {h':dq} {tk:Nat},K (.int (cond (f b a) b a)) hp→ #[Value.int a t,.int b u][argBest (fun i j=>f (([a,b][i]?).getD 0) (([a,b][j]?).getD 0)) 1]? =some v→
   (∀x o,x ∉ [s.heap.objs.size+1]→((s.heap.push {cls:= .type "tuple",data:= .seq #[.int a t,.int b u]}).push {cls:= .type "tuple_iterator",data:= .fields #[.ref s.heap.objs.size,.int 0 0]}).get? x=some o→h'.get? x=some o)→Q v {s with heap:=h',toks:=tk}:=fun{f v h' tk} h hv hk=>by
  refine P.walked R (fun a h=>az.mp h▸cN _) (fun M M e=>aD _ (aD _ e)) hk h ?_
  have e:argBest (fun i j=>f (([a,b][i]?).getD 0) (([a,b][j]?).getD 0)) 1=if f b a then 1 else 0:=rfl
  rw[e]at hv
  rcases q:f b a with _|_<;>rw[q]at hv
  ·exact af hv▸ .mk t
  ·exact af hv▸ .mk u
 have fp: ∀x∈[s.heap.objs.size+1,s.heap.objs.size],x<((s.heap.push {cls:= .type "tuple",data:= .seq #[.int a t,.int b u]}).push {cls:= .type "tuple_iterator",data:= .fields #[.ref s.heap.objs.size,.int 0 0]}).objs.size:=fun x hx=>by
  rw[dn,dn]
  exact(aX.mp hx).elim (fun e=>e▸Nat.lt_succ_self _) fun hx=>az.mp hx▸Nat.lt_succ_of_lt (Nat.lt_succ_self _)
 have walk:=Walks.tuple (prog:=B.prog) (w:=B.w) (A:=A.in1) hh (s.heap.objs.size+1) s.heap.objs.size (cR (Nat.lt_succ_self _)) #[.int a t,.int b u]
 have e1:(s.heap.push {cls:= .type "tuple",data:= .seq #[.int a t,.int b u]}).objs.size=s.heap.objs.size+1:=dn ..
 induction mx using ah with
 |false=>exact PySem.call_min_two (wpAny_pyIter_tuple ⟨_,aF _ rfl,rfl,_,rfl⟩ ⟨_,_,_,_,_,_,_,rfl,e1▸walk,⟨⟨_,aF _ rfl,rfl,rfl⟩,⟨_,aD _ (aF _ rfl),rfl,_,rfl⟩⟩,e1▸fp,Nat.succ_pos 1,
   CmpOf.ints_lt (fun i=>([a,b][i]?).getD 0) hP,fun v h' tk hv hk=>fin (f:=LT) h hv (e1▸hk)⟩)
 |true=>exact PySem.call_max_two (wpAny_pyIter_tuple ⟨_,aF _ rfl,rfl,_,rfl⟩ ⟨_,_,_,_,_,_,_,rfl,e1▸walk,⟨⟨_,aF _ rfl,rfl,rfl⟩,⟨_,aD _ (aF _ rfl),rfl,_,rfl⟩⟩,e1▸fp,Nat.succ_pos 1,
   CmpOf.ints_gt (fun i=>([a,b][i]?).getD 0) hP,fun v h' tk hv hk=>fin (f:=OE) h hv (e1▸hk)⟩)
theorem oP(l:List Int)(j:Nat)(hj:j≤l.length):preSum (fun i=>(l[i]?).getD 0) j=(l.take j).sum:=by
 induction j with
 |zero=>rfl
 |succ j ih=>rw[preSum,ih (cS hj),List.take_add_one,aR hj,List.sum_append];simp
theorem Bk(l:List Int)(h: ∀i∈l,i.natAbs<2^32):l.sum.natAbs≤l.length*2^32:=by
 induction l with
 |nil=>exact av 0
 |cons x l ih=>
  rw[List.sum_cons,b4,Nat.add_mul,dR]
  exact ad (Int.natAbs_add_le ..) (bK .. ▸bV (ih fun i hi=>h i (.tail _ hi)) (bJ (h x (.head _))))
theorem tA{i:Int}(h:i.natAbs<2^62):InLong i:=⟨cn (Int.lt_trans (by decide) (wG h).1),Int.lt_trans (wG h).2 (by decide)⟩
theorem Bj{v:V}{va:Value}(h:jn .int hp v fun l=>(∀i∈l,i.natAbs<2^32)∧K (.int l.sum) hp)(hh:A.handled=none)(R:R B W hp s)(r:a7 W va v)(P:dH B W s K Q):
  ar (model B.prog B.w) A (call (.builtin "sum") [va]) Q E s:=by
 refine iZ R r h fun l h r=>jI.elim r fun a items n hl hz rs=> ?_
 have e1:=rs.length
 rw[aN]at e1
 have hP: ∀(i:Nat) (v:Value),items[i]? =some v→∃t,v=Value.int ((l[i]?).getD 0) t:=fun i v hv=>w0 rs i v (cr.trans hv)
 refine call_sum_walk (wpAny_pyIter_list ⟨_,hl,rfl,n,rfl⟩ ⟨_,_,_,_,_,_,_,rfl,Walks.list (prog:=B.prog) (w:=B.w) (A:=A.in1) hh s.heap.objs.size a (cR (dK hl)) items,⟨⟨_,aF _ rfl,rfl,rfl⟩,⟨_,aD _ hl,rfl,n,rfl⟩⟩,
  Ay hl,hP,fun j hj=> ?_,fun h' tk t' hk=> ?_⟩)
 ·rw[e1]at hj
  refine⟨tA ?_,oP l (j+1) hj▸tA (aj (Bk _ fun i hi=>h.1 i (List.mem_of_mem_take hi)) (aj (dE _ (ad (List.length_take_le' ..) (e1▸hz))) (by decide)))⟩
  rw[aR hj]
  exact b8 (h.1 _ (List.getElem_mem hj)) (by decide)
 ·rw[e1,oP l _ (av _),List.take_length]
  exact P.walked R Dz (fun M M=>aD _) hk h.2 (.mk t')
theorem uX{a b:Int}{t u:Tok}(h1:b≠0∧aH a∧b.natAbs<2^30)(h:K (.tc (.int (a.fdiv b)) (.tc (.int (a.fmod b)) .t0)) hp)(R:R B W hp s)(P:dH B W s K Q):
  ar (model B.prog B.w) A (call (.builtin "divmod") [.int a t,.int b u]) Q E s:=
 divmod_int h1.1 (P.ins R (.push ..) (cc (av _)) (aF _ rfl) h (.mk _ _ 0 Fz.ins_at (aq rfl) (.mk _ _ (dT.mk _) (.mk _ _ (dT.mk _) rfl)))) (.inl (PyProof.noPylong_small h1.2.2))
theorem qD: ∃r,typeLookup (.type "method") "__call__"=pure (some r):=⟨.builtin "method.__call__",by rw[cq,bB];kernel_rfl⟩
theorem zw(a b:Value):argsOk "iter" ⟨[a,b],[]⟩:=by unfold argsOk;kernel_rfl
theorem qK{f:aB}{self:V}{x:List Nat}{va vb:Value}(h:K (.own hp.length) (hp++[.calls (.meth f self) (.str x) false]))(R:R B W hp s)(ra:a7 W va (.meth f self))(rb:a7 W vb (.str x))(P:dH B W s K Q):
  ar (model B.prog B.w) A (call (.builtin "iter") [va,vb]) Q E s:=by
 refine qD.elim fun r hr=> ?_
 cases id ra with
 |mk a sv hm rself=>
  have x:=dP.push s {cls:= .type "callable_iterator",data:= .fields #[.ref a,vb,.bool false]} s.toks
  have fin:=P.add R x (o:= .calls (.meth f self) (.str _) false) (cc (av _)) (.mk _ _ (aF _ rfl) (ra.tr .add) (rb.tr .add)) h
  refine call_function_entry (by decide+kernel) (by decide+kernel) kdk_entry_iter (zw _ _) ?_
  unfold Builtin.«iter»
  refine aa (m:=someArgs "iter" 1 2 _) (bq (a:=[.ref a,vb]) (by first|rfl|kernel_rfl!) ?_)
  refine aa (m:=specialOf _ _) (wpAny_specialOf (T:="method") ⟨_,R.sub _ _ hm,rfl⟩ hr ?_)
  dsimp only[Option.isNone]
  refine IV cE ?_
  refine aa (m:=rule _) (wpAny_rule (aa (m:=newFields _ _) ?_))
  unfold newFields
  exact dt (ao ⟨_,rfl,fin⟩)
@[elab_as_elim] theorem eP{C:String→Prop}{id w:String}{p q:Prop}(h:cond (id==w) p q)(k1:p→C w)(k2:q→C id):C id:=by
 induction e:id==w using ah with
 |true=>rw[e]at h;exact eq_of_beq e▸k1 h
 |false=>rw[e]at h;exact k2 h
@[elab_as_elim] theorem nJ{α:Type}{l:List α}{C:List α→Prop}{P:α→α→Prop}(h:Ci l P)(k: ∀x y,P x y→C [x,y]):C l:=by
 induction l using aO with
 |nil=>exact h.elim
 |cons x r=>exact eA (C:=fun r=>C (x::r)) h (k x)
@[elab_as_elim] theorem DJ{C:V→Prop}{f:aB→V→Prop}{v:V}(h:wN v f)(k: ∀a u,f a u→C (.meth a u)):C v:=by induction v using V.casesOn with |meth a u=>exact k a u h|_=>exact h.elim
theorem BA{v:V}{va:Value}(h:jn .int hp v fun l=>0<l.length∧K (.int (wK l)) hp)(hh:A.handled=none)(R:R B W hp s)(r:a7 W va v)(P:dH B W s K Q):
  ar (model B.prog B.w) A (call (.builtin "min") [va]) Q E s:=by
 refine iZ R r h fun l h r=>jI.elim r fun a items n hl hz rs=> ?_
 have e1:=rs.length
 rw[aN]at e1
 have hP: ∀(i:Nat) (v:Value),items[i]? =some v→∃t,v=Value.int ((l[i]?).getD 0) t:=fun i v hv=>w0 rs i v (cr.trans hv)
 refine call_min_walk (wpAny_pyIter_list ⟨_,hl,rfl,n,rfl⟩ ⟨_,_,_,_,_,_,_,rfl,Walks.list (prog:=B.prog) (w:=B.w) (A:=A.in1) hh s.heap.objs.size a (cR (dK hl)) items,⟨⟨_,aF _ rfl,rfl,rfl⟩,⟨_,aD _ hl,rfl,n,rfl⟩⟩,
  Ay hl,e1▸h.1,CmpOf.ints_lt (fun i=>(l[i]?).getD 0) hP,fun v h' tk hv hk=> ?_⟩)
 obtain⟨t,rfl⟩:=hP _ _ hv
 rw[e1]
 exact P.walked R Dz (fun M M=>aD _) hk h.2 (.mk t)
theorem yG{args:List V}{bw:List Value}(h:MU args hp K)(two:H4 LT args hp K→ar (model B.prog B.w) A (call (.builtin "min") bw) Q E s)(hh:A.handled=none)(R:R B W hp s)(rs:dD W bw args)(P:dH B W s K Q):ar (model B.prog B.w) A (call (.builtin "min") bw) Q E s:=by
 induction args using aO with
 |nil=>exact h.elim
 |cons v r=>
  induction r using aO with
  |nil=>exact rs.inv1 (C:=fun bw=>ar (model B.prog B.w) A (call (.builtin "min") bw) Q E s) fun va ra=>BA h hh R ra P
  |cons b r=>exact two h
theorem xB{id:String}{args:List V}{bw:List Value}(h:Fd id args hp K)(R:R B W hp s)(hh:A.handled=none)(rs:dD W bw args)(P:dH B W s K Q):ar (model B.prog B.w) A (call (.builtin id) bw) Q E s:=by
 have two: ∀mx:Bool,H4 (cond mx OE LT) args hp K→ar (model B.prog B.w) A (call (.builtin (cond mx "max" "min")) bw) Q E s:=fun mx h=>nJ h (fun a b h rs=>rs.inv2 fun va vb ra rb=>dA h (fun a h ra=>dA h (fun b h rb=>dT.elim ra fun t=>dT.elim rb fun u=>Bd h hh R P) rb) ra) rs
 exact eP h (fun h=>eA h (fun v h rs=>rs.inv1 fun va ra=>yN h R ra P) rs) fun h=>eP h (fun h=>yG h (two false) hh R rs P) fun h=>eP h (two true) fun h=>eP h (fun h=>eA h (fun v h rs=>rs.inv1 fun va ra=>Bj h hh R ra P) rs) fun h=>eP h (fun h=>nJ h (fun a b h rs=>rs.inv2 fun va vb ra rb=>dA h (fun a h ra=>dA h (fun b h rb=>dT.elim ra fun t=>dT.elim rb fun u=>uX h.1 h.2 R P) rb) ra) rs) fun h=>eP h (fun h=>nJ h (fun a b h rs=>rs.inv2 fun va vb ra rb=>DJ h (fun g u h ra=>fj h (fun x h rb=>qK h R ra rb P) rb) ra) rs) fun h=>eP h (fun h=>eA h (fun v h rs=>rs.inv1 fun va ra=>dA h (fun i h ra=>dT.elim ra fun t=>PySem.P.chr_of_int (by rw[decide_eq_false (dh.mpr h.1.1),decide_eq_false (dh.mpr h.1.2)];rfl) (P.toks R h.2 (eJ.mk (s:=[i.toNat]) _ (aq rfl)))) ra) rs) fun h=>eP h (fun h=>eA h (fun v h rs=>rs.inv1 fun va ra=>fj h (fun x h ra=>eA (C:=fun x=>a7 W va (.str x)→ar (model B.prog B.w) A (call (.builtin "ord") [va]) Q E s) h (fun c h ra=>eJ.elim ra fun t M=>PySem.P.ord_of_char (P.toks R h (.mk _))) ra) ra) rs) fun h=>eP h (fun h=>eA h (fun v h rs=>rs.inv1 fun va ra=>dA h (fun i h ra=>dT.elim ra fun t=>call_abs_int fun u tk=>P.toks R h (.mk _)) ra) rs) False.elim
theorem vN{v:V}{va:Value}{K:Value→Prop}(h:Ip hp v K)(R:R B W hp s)(r:a7 W va v): ∃T,K (.type T)∧s.TypeIs va T∧(T=="builtin_function_or_method")=false:=by
 have lis:kj hp v (fun M M=>K (.type "list"))→∃T,K (.type T)∧s.TypeIs va T∧(T=="builtin_function_or_method")=false:=fun h=>kT R r h fun t l h r=>jI.elim r fun a i n ho M M=>⟨"list",h,⟨_,ho,rfl⟩,by decide⟩
 induction v using V.casesOn with
 |str x=>exact eJ.elim r fun t M=>⟨"str",h,typeIs_str _ _ _,by decide⟩
 |int x=>exact dT.elim r fun t=>⟨"int",h,typeIs_int _ _ _,by decide⟩
 |lst t l=>exact lis h
 |own n=>exact lis h
 |_=>exact h.elim
theorem B7{F:Fz}(x:List Nat): ∀(vs:List Value),vs.length=x.length→(∀(j:Nat) (v:Value),vs[j]? =some v→∃c u,x[j]? =some c∧v=Value.str ⟨#[c]⟩ u)→bI (ff F .str) vs (x.map fun c=>[c]):=by
 induction x with
 |nil=>exact fun vs e M=>by rw[List.eq_nil_of_length_eq_zero e];exact .nil
 |cons c x ih=>
  intro vs e hv
  induction vs using aO with
  |nil=>injection e
  |cons v vs=>
   obtain⟨d,u,e1,e2⟩:=hv 0 v rfl
   obtain rfl:=af e1
   rw[e2]
   exact .cons (eJ.mk (s:=[c]) u (aq rfl)) (ih vs (Nat.succ.inj e) fun j w hw=>hv (j+1) w hw)
theorem rZ{own:Bool}{x:List Nat}{va:Value}(h:kD own .str (x.map fun c=>[c]) hp K)(hh:A.handled=none)(R:R B W hp s)(r:a7 W va (.str x))(P:dH B W s K Q):
  ar (model B.prog B.w) A (call (.type "list") [va]) Q E s:=by
 refine eJ.elim r fun t hz=>call_list_str hh _ t (fun h' tk acc' c' hk hl hi=> ?_) (eO (cA.symm▸hz))
 have g:dP s {s with heap:=h',toks:=tk}:=⟨hk,rfl,rfl⟩
 have rs: ∀F,bI (ff F .str) acc'.toList (x.map fun c=>[c]):=fun F=>B7 x _ (by rw[aN,hi.1];exact dp x) fun j v hv=>by
  refine(hi.2 j v (cr▸hv)).elim fun c zz=>zz.elim fun u zz=>zz.elim fun e1 e2=> ?_
  exact⟨c,u,List.getElem?_toArray▸e1,e2⟩
 have hz:acc'.size≤bS:=by rw[hi.1];exact cA.symm▸hz
 have hD:=cc (av s.heap.objs.size)
 induction own using ah with
 |false=>exact P.ins R g hD hl h.2 (.mk _ _ c' Fz.ins_at hz (rs _))
 |true=>exact P.add R g hD (o:= .list .str _) (.mk _ c' hl hz (rs _)) h.2
theorem tw(x:Int)(l:List Int):(BL x l).Perm (x::l):=by
 induction l with
 |nil=>exact .refl _
 |cons y r ih=>
  show(cond (decide (y≤x)) (x::y::r) (y::BL x r)).Perm _
  cases decide (y≤x)with
  |true=>exact .refl _
  |false=>exact(ih.cons y).trans (.swap ..)
theorem w7(x:Int){l:List Int}(h:l.Pairwise (· ≥ ·)):(BL x l).Pairwise (· ≥ ·):=by
 induction l with
 |nil=>exact List.pairwise_singleton ..
 |cons y r ih=>
  show(cond (decide (y≤x)) (x::y::r) (y::BL x r)).Pairwise _
  have q:=List.pairwise_cons.mp h
  cases e:decide (y≤x)with
  |true=>exact List.pairwise_cons.mpr ⟨fun z m=>(aX.mp m).elim (fun w=>w▸of_decide_eq_true e) fun w=>aW (q.1 z w) (of_decide_eq_true e),h⟩
  |false=>exact List.pairwise_cons.mpr ⟨fun z m=>(aX.mp ((tw x r).mem_iff.mp m)).elim (fun w=>w▸cn (Int.not_le.mp (of_decide_eq_false e))) (q.1 z),ih q.2⟩
theorem wa(l:List Int):(mZ l).Perm l∧(mZ l).Pairwise (· ≥ ·):=by
 induction l with
 |nil=>exact⟨.refl _,.nil⟩
 |cons x l ih=>exact⟨(tw x _).trans (ih.1.cons x),w7 x ih.2⟩
theorem C2{l l':List Int}(p:l'.Perm l)(h:l'.Pairwise (· ≥ ·)):l'=mZ l:=
 List.Perm.eq_of_pairwise (le:=(· ≥ ·)) (fun M M M M a b=>Int.le_antisymm b a) h (wa l).2 (p.trans (wa l).1.symm)
theorem G7{F:Fz}{vs:List Value}{ns:List Int}(h:IntsAre vs ns):bI (ff F .int) vs ns:=by
 induction h with
 |nil=>exact .nil
 |cons n t _ ih=>exact .cons (.mk t) ih
theorem Gg{F:Fz}{vs:List Value}{ns:List Int}(h:bI (ff F .int) vs ns):IntsAre vs ns:=by
 induction h with
 |nil=>exact .nil
 |cons r _ ih=>exact dT.elim (C:=fun v=>IntsAre (v::_) (_::_)) r fun t=> .cons _ t ih
theorem J9{W:Wd}{kw:List (Str×V)}{kwv:List (Str×Value)}(hk:Am kw=true)(e1:kwv.map (·.1)=kw.map (·.1))(r1:dD W (kwv.map (·.2)) (kw.map (·.2))):kwv=[(ae "reverse",.bool true)]:=by
 induction kw using aO with
 |nil=>injection hk
 |cons p r=>
  obtain⟨n,v⟩:=p
  induction v using V.casesOn with
  |bool b=>
   have hk:(b&&(n==ae "reverse"&&r.isEmpty))=true:=hk
   have h1:=aM.mp hk
   have h2:=aM.mp h1.2
   obtain rfl:=List.isEmpty_iff.mp h2.2
   refine(List.map_eq_singleton_iff.mp e1).elim fun p q=> ?_
   obtain rfl:=q.1
   exact congrArg (fun p=>[p]) (Prod.ext (q.2.trans (eq_of_beq h2.1)) (r1.inv1 (C:=fun vs=>[p.2]=vs→p.2=Value.bool true) (fun w rw_ e=>(List.cons.inj e).1.trans (show w= .bool true from h1.1▸rw_)) rfl))
  |_=>exact bh hk
theorem v8{own:Bool}{args:List V}{kw:List (Str×V)}{bw:List Value}{kwv:List (Str×Value)}(hk:Am kw=true)(h:sN own args kw hp K)(R:R B W hp s)(rs:dD W bw args)(e1:kwv.map (·.1)=kw.map (·.1))(r1:dD W (kwv.map (·.2)) (kw.map (·.2)))(P:dH B W s K Q):
  ar (model B.prog B.w) A (call (.builtin "sorted") bw kwv) Q E s:=by
 unfold sN at h
 rw[hk]at h
 obtain rfl:=J9 hk e1 r1
 refine eA h (fun v h rs=>rs.inv1 fun va ra=>iZ R ra h fun l h r=>jI.elim r fun a items n hl hz q=> ?_) rs
 have hi:IntsAre items.toList l:=Gg q
 refine sorted_ints_rev (b:=true) (vs:=items.toList) ⟨_,hl,rfl,n,rfl⟩ hi (by rw[q.length];exact h.1) fun out ns' a1 a2 a3=> ?_
 obtain rfl:=C2 a2 a3
 have g:dP s {s with heap:=sortedAll s.heap items.toList out}:=⟨fun M M e=>sortedAll_old e,rfl,rfl⟩
 obtain⟨e,hD⟩:=sortedAll_at s.heap items.toList out
 have q2: ∀F,bI (ff F .int) out.toList (mZ l):=fun F=>G7 a1
 have hz2:out.size≤bS:=by rw[←aN,(q2 W.F).length];exact h.2.1
 have h0:=cc (h:=s.heap) (cN s.heap.objs.size)
 induction own using ah with
 |false=>exact P.ins R g h0 hD h.2.2 (.mk _ _ e Fz.ins_at hz2 (q2 _))
 |true=>exact P.add R g h0 (o:= .list .int _) (.mk _ e hD hz2 (q2 _)) h.2.2
theorem GA{F:Fz}{c:Int}(n:Nat): ∀{a:Int} {vs:List Value},vs.length=n→(∀(j:Nat) (v:Value),vs[j]? =some v→∃t,v=Value.int (a+j*c) t)→bI (ff F .int) vs (eR a c n):=by
 induction n with
 |zero=>exact fun{a vs} e M=>by rw[List.eq_nil_of_length_eq_zero e];exact .nil
 |succ n ih=>
  intro a vs e hv
  induction vs using aO with
  |nil=>injection e
  |cons v vs=>
   obtain⟨t,rfl⟩:=hv 0 v rfl
   refine .cons ?_ (ih (Nat.succ.inj e) fun j w hw=>(hv (j+1) w hw).elim fun t e=>⟨t,by rw[e];congr 1;rw[dz,Int.add_mul];lia⟩)
   rw[show a+((0:Nat):Int)*c=a by lia]
   exact .mk t
theorem sb{own:Bool}{a b c:Int}{va:Value}(h:aY a b c=true∧kD own .int (eR a c (fk a b c)) hp K)(hh:A.handled=none)(R:R B W hp s)(r:a7 W va (.rng a b c))(P:dH B W s K Q):
  ar (model B.prog B.w) A (call (.type "list") [va]) Q E s:=by
 obtain⟨ra,t,u,w,ho⟩:=(show Ii W.F a b c va from r)
 have len: ∀(n:Nat) (a:Int),(eR a c n).length=n:=fun n=>by
  induction n with
  |zero=>exact fun M=>rfl
  |succ n ih=>exact fun a=>congrArg (· +1) (ih _)
 have hz:=h.2.1
 rw[len]at hz
 refine call_list_range hh (R.sub _ _ ho) h.1 (n:=fk a b c) (rangeSize_toNat a b c) (ad hz (by decide)) (fun h' tk acc' c' hk hl hi=> ?_)
 have g:dP s {s with heap:=h',toks:=tk}:=⟨hk,rfl,rfl⟩
 have rs: ∀F,bI (ff F .int) acc'.toList (eR a c (fk a b c)):=fun F=>GA _ (by rw[aN,hi.1]) fun j v hv=>hi.2 j v (cr▸hv)
 have hz:acc'.size≤bS:=by rw[hi.1];exact hz
 have hD:=cc (av s.heap.objs.size)
 induction own using ah with
 |false=>exact P.ins R g hD hl h.2.2 (.mk _ _ c' Fz.ins_at hz (rs _))
 |true=>exact P.add R g hD (o:= .list .int _) (.mk _ c' hl hz (rs _)) h.2.2
theorem wU{own:Bool}{v:V}{va:Value}(h:IQ own v hp K)(hh:A.handled=none)(R:R B W hp s)(r:a7 W va v)(P:dH B W s K Q):ar (model B.prog B.w) A (call (.type "list") [va]) Q E s:=by
 have str:gU v (fun s=>kD own .str (s.map fun c=>[c]) hp K)→ar (model B.prog B.w) A (call (.type "list") [va]) Q E s:=fun h=>fj (C:=fun v=>a7 W va v→_) h (fun x h ra=>rZ h hh R ra P) r
 induction v using V.casesOn with
 |rng a b c=>exact sb h hh R r P
 |_=>exact str h
theorem xz{own:Bool}{T:String}{args:List V}{bw:List Value}(h:Jc own T args hp K)(R:R B W hp s)(hh:A.handled=none)(rs:dD W bw args)(P:dH B W s K Q):ar (model B.prog B.w) A (call (.type T) bw) Q E s:=by
 refine eP h (fun h=>uo h R rs fun W' hp' s' v va k=>P W' hp' s' v va (k.2▸k.1)) fun h=>eA h (fun v h rs=>rs.inv1 fun va ra=> ?_) rs
 exact eP h (fun h=>wU h hh R ra P) fun h=>eP h (fun h=>fj h (fun x h ra=>eJ.elim ra fun t M=>by
   obtain⟨i,e⟩:=Option.isSome_iff_exists.mp h.1.1
   have k:=h.2
   rw[e]at k
   exact KIN.call_text e (dp x▸h.1.2) (P.toks R k (.mk _))) ra) fun h=>
  eP h (fun h=>dA h (fun i h ra=>dT.elim ra fun t=>PySem.P.str_of_int (yK h.1) (w4 i▸P.toks R h.2 (.mk s.toks (w5 h.1)))) ra) fun h=>
  eP h (fun h=>(vN h R ra).elim fun T h=>call_type_of h.2.1 (vM T _▸h.2.2) (P.here R h.1 rfl)) False.elim
end
section
variable{α β:Type}{n:Nat}{K:Nat→Int}
noncomputable def jJ(n:Nat)(K:Nat→Int)(Q:α→Prop):KasT α→Prop
 | .ret a=>Q a
 | .ask i j k=>(i<n∧j<n)∧jJ n K Q (k (decide (K i<K j)))
theorem iY{f:α→KasT β}{Q:β→Prop}: ∀{t:KasT α},jJ n K (fun a=>jJ n K Q (f a)) t→jJ n K Q (t.bind f)
 | .ret _,h=>h
 | .ask i j k,h=>⟨h.1,iY h.2⟩
theorem gX{Q Q':α→Prop}(m: ∀a,Q a→Q' a): ∀{t:KasT α},jJ n K Q t→jJ n K Q' t
 | .ret _,h=>m _ h
 | .ask i j k,h=>⟨h.1,gX m h.2⟩
theorem lA{Q:α→Prop}{i j:Nat}{k:Bool→KasT α}(hi:i<n)(hj:j<n)(h1:K i<K j→jJ n K Q (k true))(h2: ¬K i<K j→jJ n K Q (k false)):jJ n K Q (.ask i j k):=by
 refine⟨⟨hi,hj⟩,?_⟩
 by_cases c:K i<K j
 ·rw[decide_eq_true c];exact h1 c
 ·rw[decide_eq_false c];exact h2 c
def Pl(n:Nat)(p:Array Nat):Prop:=p.toList.Perm (cX n)
theorem Pl.size{p:Array Nat}(h:Pl n p):p.size=n:=by have:=h.length_eq;rwa [aN,List.length_range]at this
theorem Pl.lt{p:Array Nat}(h:Pl n p){i:Nat}(hi:i<n):p.getD i 0<n:=by
 have hs:i<p.size:=h.size.symm▸hi
 have e:p.getD i 0=p[i]:=by simp[Array.getD,hs]
 rw[e]
 exact cI.mp (h.mem_iff.mp (by simp))
theorem Pl.ne{p:Array Nat}(h:Pl n p){i j:Nat}(hi:i<n)(hj:j<n)(hij:i≠j):p.getD i 0≠p.getD j 0:=by
 have hi':i<p.size:=h.size.symm▸hi
 have hj':j<p.size:=h.size.symm▸hj
 have e1:p.getD i 0=p[i]:=by simp[Array.getD,hi']
 have e2:p.getD j 0=p[j]:=by simp[Array.getD,hj']
 rw[e1,e2]
 intro e
 have nd:p.toList.Nodup:=h.nodup_iff.mpr List.nodup_range
 exact hij ((List.getElem_inj (h₀:=by simpa using hi') (h₁:=by simpa using hj') nd).mp (by simpa using e))
def Up(K:Nat→Int)(p:Array Nat)(k:Nat):Prop:=∀i j,i<j→j<k→K (p.getD i 0)<K (p.getD j 0)
def Dn(K:Nat→Int)(p:Array Nat)(k:Nat):Prop:=Up (fun x=> -K x) p k
theorem OY{p:Array Nat}(hP:Pl n p)(inj: ∀i j,i<n→j<n→K i=K j→i=j){i j:Nat}(hi:i<n)(hj:j<n)(hij:i≠j)(c: ¬K (p.getD i 0)<K (p.getD j 0)):K (p.getD j 0)<K (p.getD i 0):=
 Int.lt_iff_le_and_ne.mpr ⟨dh.mp c,fun q=>hP.ne hi hj hij (inj _ _ (hP.lt hj) (hP.lt hi) q).symm⟩
theorem GC{i j k:Nat}(h:i<j)(hj:j<k+1):j-1<k:=aA (Nat.sub_lt (Nat.zero_lt_of_lt h) Nat.one_pos) (bD hj)
theorem Up.snoc{p:Array Nat}{k:Nat}(h:Up K p k)(hk:1≤k)(hl:K (p.getD (k-1) 0)<K (p.getD k 0)):Up K p (k+1):=fun i j hij hj=>by
 by_cases hjk:j=k
 ·subst hjk
  by_cases hik:i=j-1
  ·rw[hik];exact hl
  ·exact Int.lt_trans (h i (j-1) (Nat.lt_of_le_of_ne (Nat.le_sub_one_of_lt hij) hik) (Nat.sub_lt hk Nat.one_pos)) hl
 ·exact h i j hij (Nat.lt_of_le_of_ne (bD hj) hjk)
theorem Dn.snoc{p:Array Nat}{k:Nat}(h:Dn K p k)(hk:1≤k)(hl:K (p.getD k 0)<K (p.getD (k-1) 0)):Dn K p (k+1):=Up.snoc h hk (Int.neg_lt_neg hl)
theorem Up.one{p:Array Nat}:Up K p 1:=fun i j h1 h2=>absurd (aA h1 (bD h2)) (Nat.not_lt_zero i)
theorem rt{p:Array Nat}(hP:Pl n p)(inj: ∀i j,i<n→j<n→K i=K j→i=j): ∀{f m:Nat},1≤m→m+f≤n→Up K p m→jJ n K (fun r=>m≤r∧r≤m+f∧Up K p r∧(r<m+f→K (p.getD r 0)<K (p.getD (r-1) 0))) (kas_asc p f m)
 |0,m,h1,h2,h=>⟨av _,av _,h,fun q=>absurd q (Nat.lt_irrefl _)⟩
 |f+1,m,h1,h2,h=>by
  have a:m<n:=aA (dF (Nat.succ_pos f)) h2
  have b:m-1<n:=aj (Nat.sub_le m 1) a
  have e:m+1+f=m+(f+1):=Nat.succ_add m f
  refine lA (hP.lt a) (hP.lt b) (fun c=>⟨av _,aG _ _,h,fun M=>c⟩) fun c=> ?_
  exact gX (fun r q=>⟨cS q.1,ad q.2.1 (aC e),q.2.2.1,fun z=>q.2.2.2 (aA z (aC e.symm))⟩) (rt hP inj (f:=f) (m:=m+1) (c9 1 m) (ad (aC e) h2) (h.snoc h1 (OY hP inj a b (cx (Nat.sub_lt h1 Nat.one_pos)) c)))
theorem tE{p:Array Nat}(hP:Pl n p)(inj: ∀i j,i<n→j<n→K i=K j→i=j): ∀{f m:Nat},2≤m→m+f≤n→Dn K p m→jJ n K (fun r=>r.1=p∧2≤r.2.1∧r.2.1≤n∧Dn K p r.2.1∧r.2.2=0) (kas_desc f p m 0)
 |0,m,h1,h2,h=>⟨rfl,h1,h2,h,rfl⟩
 |f+1,m,h1,h2,h=>by
  have a:m<n:=aA (dF (Nat.succ_pos f)) h2
  have b:m-1<n:=aj (Nat.sub_le m 1) a
  refine lA (hP.lt a) (hP.lt b) (fun c=>tE hP inj (f:=f) (Nat.le_succ_of_le h1) (ad (aC (Nat.succ_add m f)) h2) (h.snoc (cS h1) c)) fun c=> ?_
  exact lA (hP.lt b) (hP.lt a) (fun M=>⟨rfl,h1,bJ a,h,rfl⟩) fun c2=>absurd (OY hP inj a b (cx (Nat.sub_lt (cS h1) Nat.one_pos)) c) c2
theorem Ax{p q:Array Nat}{i j:Nat}(h:p[i]? =q[j]?):p.getD i 0=q.getD j 0:=by rw[Array.getD_eq_getD_getElem?,Array.getD_eq_getD_getElem?,h]
theorem J8{p:Array Nat}(hP:Pl n p){m:Nat}(hm:m≤n)(h:Dn K p m):Pl n (kas_rev p 0 m)∧Up K (kas_rev p 0 m) m:=by
 have hz:m≤p.size:=hP.size.symm▸hm
 have e: ∀k,k<m→(kas_rev p 0 m).getD k 0=p.getD (m-1-k) 0:=fun k hk=>by
  have q:=getElem?_mirror_all (xs:=p) (i:=0) hz k
  rw[if_pos ⟨a9 k,hk⟩,cF]at q
  exact Ax q
 refine⟨(mirror_perm p 0 m _).toList.trans hP,fun i j hij hj=> ?_⟩
 rw[e i (b8 hij hj),e j hj]
 exact Int.lt_of_neg_lt_neg (h _ _ (Nat.sub_lt_sub_left (aA hij (Nat.le_sub_one_of_lt hj)) hij) (aj (Nat.sub_le (m-1) i) (Nat.sub_lt (Nat.zero_lt_of_lt hj) Nat.one_pos)))
theorem Bi{p:Array Nat}(hP:Pl n p)(inj: ∀i j,i<n→j<n→K i=K j→i=j){m:Nat}(h2:2≤m)(hm:m≤n)(h:Dn K p m):jJ n K (fun r=>Pl n r.2∧1≤r.1∧r.1≤n∧Up K r.2 r.1) (kas_tail3 m n p):=by
 have z:=J8 hP hm h
 have e:m+(n-m)≤n:=aC (Nat.add_sub_cancel' hm)
 have o:=cS h2
 exact iY (gX (fun r q=>⟨z.1,ad o q.1,ad q.2.1 e,q.2.2.1⟩) (rt z.1 inj (f:=n-m) (m:=m) o e z.2))
theorem zc{p:Array Nat}(hP:Pl n p)(inj: ∀i j,i<n→j<n→K i=K j→i=j)(h2:2≤n):jJ n K (fun r=>Pl n r.2∧1≤r.1∧r.1≤n∧Up K r.2 r.1) (kas_count n p):=by
 have E:1+(n-1)=n:=Nat.add_sub_cancel' (cS h2)
 refine iY (gX (fun r q=> ?_) (rt hP inj (f:=n-1) (m:=1) (av 1) (aC E) .one))
 have hr:r≤n:=ad q.2.1 (aC E)
 show jJ n K _ (if(r==n)=true then _ else _)
 by_cases e:(r==n)=true
 ·rw[if_pos e]
  exact⟨hP,q.1,hr,q.2.2.1⟩
 ·rw[if_neg e]
  by_cases h1:r>1
  ·rw[if_pos h1]
   have l:=Nat.sub_lt q.1 Nat.one_pos
   exact lA (hP.lt (Nat.lt_of_succ_lt h2)) (hP.lt (aA l hr)) (fun M=>⟨hP,q.1,hr,q.2.2.1⟩) fun c2=>absurd (q.2.2.1 0 (r-1) (Nat.sub_pos_of_lt h1) l) c2
  ·rw[if_neg h1]
   obtain rfl:r=1:=cK (bY.mp h1) q.1
   refine iY (gX (fun r2 q2=> ?_) (tE hP inj (f:=n-(1+1)) (m:=1+1) (av 2) (aC (Nat.add_sub_cancel' h2)) (Dn.snoc Up.one (av 1) (q.2.2.2 (aA h2 (aC E.symm))))))
   show jJ n K _ (if r2.2.2>0 then _ else _)
   rw[if_neg (bY.mpr (aC q2.2.2.2.2)),q2.1]
   exact Bi hP inj q2.2.1 q2.2.2.1 q2.2.2.2.1
theorem Km{l r:Nat}(h:l<r):l≤(l+r)/2:=(Nat.le_div_iff_mul_le Nat.two_pos).mpr (ad (aC (Nat.mul_two l)) (bH (bJ h) l))
theorem Kl{l r:Nat}(h:l<r):(l+r)/2<r:=(Nat.div_lt_iff_lt_mul Nat.two_pos).mpr (aA (Nat.add_lt_add_right h r) (aC (Nat.mul_two r).symm))
theorem mE{p:Array Nat}(hP:Pl n p)(inj: ∀i j,i<n→j<n→K i=K j→i=j){k:Nat}(hk:k<n)(hU:Up K p k): ∀{f l r:Nat},l≤r→r≤k→r-l≤f→(∀i,i<l→K (p.getD i 0)<K (p.getD k 0))→(∀i,r≤i→i<k→K (p.getD k 0)<K (p.getD i 0))→
  jJ n K (fun x=>x≤k∧(∀i,i<x→K (p.getD i 0)<K (p.getD k 0))∧∀i,x≤i→i<k→K (p.getD k 0)<K (p.getD i 0)) (kas_place p k f l r)
 |0,l,r,h1,h2,h3,a,b=>by
  obtain rfl:l=r:=cK h1 (Nat.le_of_sub_eq_zero (Nat.le_zero.mp h3))
  exact⟨h2,a,b⟩
 |f+1,l,r,h1,h2,h3,a,b=>by
  show jJ n K _ (if l≥r then _ else _)
  by_cases e:l≥r
  ·rw[if_pos e]
   obtain rfl:l=r:=cK h1 e
   exact⟨h2,a,b⟩
  ·rw[if_neg e]
   have lt:=Nat.not_le.mp e
   have m1:=Km lt
   have m2:=Kl lt
   have hm:=aA m2 h2
   have hn:=b8 hm hk
   refine lA (hP.lt hk) (hP.lt hn) (fun c=> ?_) fun c=> ?_
   ·exact mE hP inj hk hU (f:=f) m1 (bJ hm) (bD (aA (Nat.sub_lt_sub_right m1 m2) h3)) a fun i h4 h5=>(Nat.eq_or_lt_of_le h4).elim (fun q=>q▸c) fun q=>Int.lt_trans c (hU _ _ q h5)
   ·have z:=OY hP inj hk hn (cx hm) c
    exact mE hP inj hk hU (f:=f) m2 h2 (bD (aA (Nat.sub_lt_sub_left lt (Nat.lt_succ_of_le m1)) h3)) (fun i h4=>(Nat.eq_or_lt_of_le (bD h4)).elim (fun q=>q▸z) fun q=>Int.lt_trans (hU i _ q hm) z) b
theorem B9{p:Array Nat}(hP:Pl n p){k l:Nat}(hk:k<n)(hl:l≤k)(hU:Up K p k)(a: ∀i,i<l→K (p.getD i 0)<K (p.getD k 0))(b: ∀i,l≤i→i<k→K (p.getD k 0)<K (p.getD i 0)):Pl n (bubble p k (k-l))∧Up K (bubble p k (k-l)) (k+1):=by
 have hz:k<p.size:=hP.size.symm▸hk
 have e: ∀i,(bubble p k (k-l)).getD i 0=p.getD (if i=l then k else if l<i∧i≤k then i-1 else i) 0:=fun i=>by
  have q:=getElem?_bubble hz (k-l) (Nat.sub_le _ _) i
  rw[Nat.sub_sub_self hl]at q
  refine Ax (q.trans ?_)
  rw[apply_ite (fun i=>p[i]?),apply_ite (fun i=>p[i]?)]
 refine⟨(bubble_perm p k _).toList.trans hP,fun i j hij hj=> ?_⟩
 have jk:=GC hij hj
 rw[e i,e j]
 by_cases c1:i=l
 ·subst c1
  rw[if_pos rfl,if_neg (cx hij),if_pos ⟨hij,bD hj⟩]
  exact b _ (Nat.le_sub_one_of_lt hij) jk
 ·rw[if_neg c1]
  by_cases c2:j=l
  ·subst c2
   rw[if_pos rfl,if_neg fun z=>Nat.lt_asymm hij z.1]
   exact a i hij
  ·rw[if_neg c2]
   by_cases c3:l<i∧i≤k
   ·rw[if_pos c3,if_pos ⟨b8 c3.1 hij,bD hj⟩]
    exact hU _ _ (Nat.sub_lt_sub_right (Nat.zero_lt_of_lt c3.1) hij) jk
   ·rw[if_neg c3]
    by_cases c4:l<j∧j≤k
    ·rw[if_pos c4]
     exact hU _ _ (aA (Nat.lt_of_le_of_ne (bY.mp fun z=>c3 ⟨z,bJ (aA hij (bD hj))⟩) c1) (Nat.le_sub_one_of_lt c4.1)) jk
    ·rw[if_neg c4]
     exact hU _ _ hij (aA (Nat.lt_of_le_of_ne (bY.mp fun z=>c4 ⟨z,bD hj⟩) c2) hl)
theorem xD(inj: ∀i j,i<n→j<n→K i=K j→i=j): ∀{f k:Nat} {p:Array Nat},Pl n p→k+f=n→Up K p k→jJ n K (fun p=>Pl n p∧Up K p n) (kas_bin f p k)
 |0,k,p,hP,h,hU=>⟨hP,by rw[←h];exact hU⟩
 |f+1,k,p,hP,h,hU=>by
  have hk:k<n:=aA (dF (Nat.succ_pos f)) (aC h)
  refine iY (gX (fun l q=> ?_) (mE hP inj hk hU (a9 k) (av k) (av k) (fun i h=>absurd h (Nat.not_lt_zero i)) fun i h1 h2=>absurd h2 (bY.mpr h1)))
  have z:=B9 hP hk q.1 hU q.2.1 q.2.2
  exact xD inj z.1 ((Nat.succ_add k f).trans h) z.2
theorem Bm(inj: ∀i j,i<n→j<n→K i=K j→i=j)(h2:2≤n):jJ n K (fun p=>Pl n p∧Up K p n) (kas_sort n):=by
 have hP:Pl n (de (cX n)):=by unfold Pl;rw[List.toList_toArray]
 refine iY (gX (fun r q=> ?_) (zc hP inj h2))
 show jJ n K _ (if r.1<n then _ else _)
 by_cases c:r.1<n
 ·rw[if_pos c,Nat.max_eq_left q.2.1]
  exact xD inj q.1 (Nat.add_sub_cancel' (bJ c)) q.2.2.2
 ·rw[if_neg c]
  exact⟨q.1,cK q.2.2.1 (bY.mp c)▸q.2.2.2⟩
theorem Ar{cmp:Nat→Nat→(Bool→ag→Prop)→ag→Prop}{G:α→ag→Prop}{Q:α→Prop}{s:ag}(hc: ∀i j C,i<n→j<n→C (decide (K i<K j)) s→cmp i j C s)(hG: ∀a,Q a→G a s): ∀{t:KasT α},jJ n K Q t→t.kasWp cmp G s
 | .ret _,h=>hG _ h
 | .ask i j k,h=>hc _ _ _ h.1.1 h.1.2 (Ar hc hG h.2)
end
section
variable{prog:Program}{w:World}{A:bv}{E:Value→ag→Prop}{s:ag}
def FR(h:dq):List Value→List (Int×Int)→Prop:=bI fun v d=>∃a n t u,v= .ref a∧h.get? a=some {cls:= .type "tuple",data:= .seq #[.int d.1 t,.int d.2 u] n}
theorem FR.tups{h:dq}{vs:List Value}{l:List (Int×Int)}(p:FR h vs l): ∃fs,KatTups h vs fs∧fs.length=vs.length∧∀v∈fs,∃i t,v= .int i t:=by
 induction p with
 |nil=>exact⟨[],trivial,rfl,m9⟩
 | @cons v d vs l r _ ih=>
  refine ih.elim fun fs zz=>zz.elim fun h1 zz=>zz.elim fun h2 h3=> ?_
  obtain⟨a,n,t,u,rfl,ho⟩:=r
  exact⟨.int d.1 t::fs,⟨⟨a,_,_,_,rfl,ho,rfl,rfl,rfl⟩,h1⟩,congrArg (· +1) h2,fun v m=>(aX.mp m).elim (fun e=>⟨_,_,e⟩) (h3 v)⟩
theorem FR.at{h:dq}{vs:List Value}{l:List (Int×Int)}(p:FR h vs l): ∀{i:Nat},i<vs.length→∃a n t u,vs.getD i .none= .ref a∧h.get? a=some {cls:= .type "tuple",data:= .seq #[.int (l.getD i (0,0)).1 t,.int (l.getD i (0,0)).2 u] n}:=by
 induction p with
 |nil=>exact fun h=>absurd h (Nat.not_lt_zero _)
 |cons r _ ih=>
  intro i hi
  cases i with
  |zero=>exact r
  |succ i=>exact ih (dN hi)
theorem Ch{vs:List Value}{l:List (Int×Int)}(p:FR s.heap vs l)(inj: ∀i j,i<vs.length→j<vs.length→(l.getD i (0,0)).1=(l.getD j (0,0)).1→i=j){i j:Nat}(hi:i<vs.length)(hj:j<vs.length){C:Bool→ag→Prop}(h:C (decide ((l.getD i (0,0)).1<(l.getD j (0,0)).1)) s):
  kas_ask prog w A (tuples' true) vs i j C s:=by
 refine(p.at hi).elim fun a zz=>zz.elim fun n zz=>zz.elim fun t zz=>zz.elim fun u zz=>zz.elim fun e1 ho=> ?_
 obtain⟨b,m,t',u',e2,ho'⟩:=p.at hj
 unfold kas_ask
 rw[e1,e2]
 refine kat_lt ho rfl ho' rfl (kat_cons (wpAny_eqBool_int (kat_go (fun e=> ?_) fun e=>kat_no (oneLt_int h))))
 obtain rfl:=inj i j hi hj (beq_iff_eq.mp e)
 rw[decide_eq_false (Int.lt_irrefl _)]at h
 refine kat_yes (kat_cons (wpAny_eqBool_int (kat_go (fun M=>kat_yes (kat_nil h)) fun e=> ?_)))
 exact absurd rfl (beq_eq_false_iff_ne.mp e)
theorem pi{a:aB}{vs:List Value}{l:List (Int×Int)}{n:Nat}{P:Fin→ag→Prop}(ho:s.heap.get? a=some (seqObj "list" vs.toArray n))(p:FR s.heap vs l)(inj: ∀i j,i<vs.length→j<vs.length→(l.getD i (0,0)).1=(l.getD j (0,0)).1→i=j)(h64:vs.length<64)
  (h: ∀q,Pl vs.length q→Up (fun i=>(l.getD i (0,0)).1) q vs.length→P (.done (.ret .none)) {s with heap:=sortedHeap s.heap a vs (de (q.toList.map fun i=>vs.getD i Value.none))}):
  ar (model prog w) A (Builtin.«list.sort» ⟨[.ref a],[]⟩) P E s:=by
 rw[list_sort_plain]
 have ha:a<s.heap.objs.size:=dK ho
 refine aa (listItems_at ho rfl ?_)
 refine aa (listUpdate_at ho rfl ?_)
 obtain⟨e1,ho1⟩: ∃e1,(s.heap.update a (Obj.mapSeq fun M=> #[])).get? a=some (seqObj "list" #[] e1):=⟨_,get?_update_seq ho (fun M=> #[])⟩
 refine aa (seqEpoch_at ho1 rfl ?_)
 refine aa (wpAny_newTuple ?_)
 refine aa (wpAny_newList ?_)
 refine aU ?_
 have ho6:(((s.heap.update a (Obj.mapSeq fun M=> #[])).push (seqObj "tuple" vs.toArray 0)).push (seqObj "list" #[] 0)).get? a=some (seqObj "list" #[] e1):=by
  rw[dq.get?_push_ne _ _ _ (by rw[size_push',dq.size_update];exact cR (Nat.lt_succ_of_lt ha)),dq.get?_push_ne _ _ _ (by rw[dq.size_update];exact cR ha)]
  exact ho1
 have p6:FR (((s.heap.update a (Obj.mapSeq fun M=> #[])).push (seqObj "tuple" vs.toArray 0)).push (seqObj "list" #[] 0)) vs l:=p.mono fun v d r=>by
  obtain⟨b,k,t,u,rfl,hb⟩:=r
  refine⟨b,k,t,u,rfl,aD _ (aD _ ((dq.get?_update_ne _ _ _ _ fun z=> ?_).trans hb))⟩
  subst z
  exact absurd (Value.type.inj (congrArg Obj.cls (af (ho.symm.trans hb)))) (by decide)
 show ar (model prog w) A _ P E {s with heap:=((s.heap.update a (Obj.mapSeq fun M=> #[])).push (seqObj "tuple" vs.toArray 0)).push (seqObj "list" #[] 0)}
 dsimp only
 have hsz:vs.toArray.size=vs.length:=by simp
 have hout: ∀q:Array Nat,Pl vs.length q→(de (q.toList.map fun i=>vs.getD i Value.none)).size=vs.length:=fun q hq=>by rw[cA,aE,aN,hq.size]
 by_cases h2:vs.toArray.size<2
 ·rw[if_pos h2,if_pos h2]
  refine aa (ao ?_)
  rw[StateT.run_pure]
  refine aa (ao ?_)
  dsimp only
  refine aa (seqEpoch_at ho6 rfl ?_)
  have hP:Pl vs.length (de (cX vs.length)):=by unfold Pl;rw[List.toList_toArray]
  have eo:(arrOf (SortSt.mk' general' (vs.toArray.zip vs.toArray) #[] 7 none)).map (·.2)=de ((de (cX vs.length)).toList.map fun i=>vs.getD i Value.none):=
   kat_snds (st:=SortSt.mk' general' (vs.toArray.zip vs.toArray) #[] 7 none) rfl (p:=de (cX vs.length)) (by
    have e:=kas_range (vs.toArray.zip vs.toArray)
    rw[show(vs.toArray.zip vs.toArray).size=vs.length by simp]at e
    exact e.symm)
  rw[eo]
  refine aa (listUpdate_at ho6 rfl ?_ (hsz2:=by rw[hout _ hP,sizeLine_eq];exact ad (bJ h64) (by decide)))
  simp only[bne_self_eq_false,Bool.false_eq_true,if_false]
  exact ao (h _ hP fun i j h1 h3=>absurd h3 (bY.mpr (ad (bD (aj (aC hsz.symm) h2)) (Nat.zero_lt_of_lt h1))))
 ·rw[if_neg h2,if_neg h2]
  have l2:=ad (bY.mp h2) (aC hsz)
  obtain⟨fs,hf1,hf2,hf3⟩:=p6.tups
  refine aa (kat_kind hf1 (ad (cS l2) (aC hf2.symm)) (T:= .type "int") (fun v m=> ?_) rfl ?_)
  ·obtain⟨i,t,rfl⟩:=hf3 v m
   exact .now
  refine aa (bF (kat_run (Q:=fun st' s'=>s'={s with heap:=((s.heap.update a (Obj.mapSeq fun M=> #[])).push (seqObj "tuple" vs.toArray 0)).push (seqObj "list" #[] 0)}∧∃q:Array Nat,Pl vs.length q∧Up (fun i=>(l.getD i (0,0)).1) q vs.length∧arrOf st'=q.map (kas_item (vs.toArray.zip vs.toArray))∧failedOf st'=none)
   (G:=fun q s'=>s'={s with heap:=((s.heap.update a (Obj.mapSeq fun M=> #[])).push (seqObj "tuple" vs.toArray 0)).push (seqObj "list" #[] 0)}∧Pl vs.length q∧Up (fun i=>(l.getD i (0,0)).1) q vs.length)
   rfl l2 h64 (fun q st' s' a1 a2 a3 a4=>⟨a4.1,q,a4.2.1,a4.2.2,a2,a3⟩) (Ar (K:=fun i=>(l.getD i (0,0)).1) (fun i j C hi hj hC=>Ch (s:={s with heap:=((s.heap.update a (Obj.mapSeq fun M=> #[])).push (seqObj "tuple" vs.toArray 0)).push (seqObj "list" #[] 0)}) p6 inj hi hj hC) (fun q hq=>⟨rfl,hq⟩) (Bm inj (by omega)))) ?_ fun M M e=>e)
  rintro ⟨⟨⟩,st'⟩ s' ⟨rfl,q,hq,hu,har,hfl⟩
  refine aa (seqEpoch_at ho6 rfl ?_)
  rw[kat_snds rfl har]
  refine aa (listUpdate_at ho6 rfl ?_ (hsz2:=by rw[hout _ hq,sizeLine_eq];exact ad (bJ h64) (by decide)))
  rw[hfl]
  simp only[bne_self_eq_false,Bool.false_eq_true,if_false]
  exact ao (h q hq hu)
theorem t8{a:aB}{vs:List Value}{l:List (Int×Int)}{Q:Value→ag→Prop}(hl:s.heap.IsList a vs.toArray)(p:FR s.heap vs l)(inj: ∀i j,i<vs.length→j<vs.length→(l.getD i (0,0)).1=(l.getD j (0,0)).1→i=j)(h64:vs.length<64)
  (h: ∀q,Pl vs.length q→Up (fun i=>(l.getD i (0,0)).1) q vs.length→Q (.ref (s.heap.objs.size+1)) {s with heap:=sortedAll s.heap vs (de (q.toList.map fun i=>vs.getD i Value.none))}):
  ar (model prog w) A (call (.builtin "sorted") [.ref a]) Q E s:=by
 refine Calls.call_function_entry kind_sorted plain_sorted entry_sorted (args_sorted1 _) ?_
 unfold Builtin.«sorted»
 refine aa (m:=checkCount "sorted" 1 1 _) (ao ?_)
 refine aa (collect_list hl ?_)
 refine aa (wpAny_newList ?_)
 have hsz:((s.heap.push (seqObj "list" #[] 0)).update s.heap.objs.size (Obj.mapSeq (· ++vs.toArray))).objs.size=s.heap.objs.size+1:=by
  rw[dq.size_update,size_push']
 have hoL:(((s.heap.push (seqObj "list" #[] 0)).update s.heap.objs.size (Obj.mapSeq (· ++vs.toArray))).push (seqObj "list" vs.toArray 0)).get? (s.heap.objs.size+1)=some (seqObj "list" vs.toArray 0):=by
  rw[←hsz];exact aF _ rfl
 have p2:FR (((s.heap.push (seqObj "list" #[] 0)).update s.heap.objs.size (Obj.mapSeq (· ++vs.toArray))).push (seqObj "list" vs.toArray 0)) vs l:=p.mono fun v d r=>by
  obtain⟨b,k,t,u,rfl,hb⟩:=r
  exact⟨b,k,t,u,rfl,aD _ ((dq.get?_update_ne _ _ _ _ (cR (dK hb))).trans (aD _ hb))⟩
 show ar _ _ _ _ _ {s with heap:=((s.heap.push (seqObj "list" #[] 0)).update s.heap.objs.size (Obj.mapSeq (· ++vs.toArray))).push (seqObj "list" vs.toArray 0)}
 rw[hsz]
 refine aa (aU (wpAny_call_entry slot_list_sort ⟨_,hoL,rfl⟩ entry_list_sort (pi hoL p2 inj h64 fun q a1 a2=>⟨_,rfl,?_⟩) (args_list_sort _)))
 exact ao ⟨_,rfl,h q a1 a2⟩
end
theorem wA{F:Fz}{vs:List Value}{l:List (Int×Int)}(q:bI (ff F F4) vs l): ∀ix:List Nat,(∀i∈ix,i<l.length)→bI (ff F F4) (ix.map fun i=>vs.getD i Value.none) (ix.map fun i=>l.getD i (0,0))
 |[],_=> .nil
 |i::ix,h=> .cons (by
   have hi:=h i (.head _)
   clear h
   induction q generalizing i with
   |nil=>exact absurd hi (Nat.not_lt_zero _)
   |cons r _ ih=>
    cases i with
    |zero=>exact r
    |succ i=>exact ih i (dN hi)) (wA q ix fun j m=>h j (.tail _ m))
theorem yr{α:Type}(d:α): ∀l:List α,(cX l.length).map (fun i=>l.getD i d)=l
 |l=>List.ext_getElem (by simp) fun i h1 h2=>by simp[h2]
theorem Dt{l l1 l2:List (Int×Int)}(p1:l1.Perm l)(s1:l1.Pairwise fun a b=>a.1<b.1)(p2:l2.Perm l)(s2:l2.Pairwise fun a b=>a.1<b.1):l1=l2:=
 List.Perm.eq_of_pairwise (le:=fun a b=>a.1<b.1) (fun M M M M a b=>absurd a (Int.lt_asymm b)) s1 s2 (p1.trans p2.symm)
theorem Kd{l:List (Int×Int)}{q:Array Nat}(hq:Pl l.length q)(hu:Up (fun i=>(l.getD i (0,0)).1) q l.length):(q.toList.map fun i=>l.getD i (0,0)).Perm l∧(q.toList.map fun i=>l.getD i (0,0)).Pairwise fun a b=>a.1<b.1:=by
 refine⟨(List.Perm.map _ hq).trans (.of_eq (yr _ l)),List.pairwise_iff_getElem.mpr fun i j hi hj hij=> ?_⟩
 have hz:=hq.size
 rw[aE,aN]at hi hj
 have z:=hu i j hij (hz▸hj)
 rw[List.getElem_map,List.getElem_map,Array.getElem_toList,Array.getElem_toList]
 have e1:q.getD i 0=q[i]:=by simp[Array.getD,hi]
 have e2:q.getD j 0=q[j]:=by simp[Array.getD,hj]
 rw[←e1,←e2]
 exact z
theorem y7{l l':List (Int×Int)}(p:l'.Perm l)(h:l'.Pairwise fun a b=>a.1<b.1): ∀i j,i<l.length→j<l.length→(l.getD i (0,0)).1=(l.getD j (0,0)).1→i=j:=fun i j hi hj e=>by
 have nd:(l.map (·.1)).Nodup:=(List.Perm.map _ p).nodup_iff.mp (List.pairwise_map.mpr (h.imp fun q=>Int.ne_of_lt q))
 refine(List.getElem_inj (h₀:=by rw[aE];exact hi) (h₁:=by rw[aE];exact hj) nd).mp ?_
 rw[List.getElem_map,List.getElem_map]
 simpa [hi,hj]using e
section
variable{B:bW}{A:bv}{W:Wd}{hp:Hp}{s:ag}{E:Value→ag→Prop}{K:V→Hp→Prop}{Q:Value→ag→Prop}
theorem Kc{F:Fz}{h:dq}(hF: ∀a o,F a=some o→h.get? a=some o){vs:List Value}{l:List (Int×Int)}(q:bI (ff F F4) vs l):FR h vs l:=q.mono fun v d r=>by
 refine eD.elim (C:=fun v=>∃a n t u,v= .ref a∧h.get? a=some {cls:= .type "tuple",data:= .seq #[.int d.1 t,.int d.2 u] n}) (show eD "tuple" F (fM (dT d.1) (fM (dT d.2) (· =[]))) v from r) fun a items n ho z r=> ?_
 obtain⟨its⟩:=items
 refine fM.elim (C:=fun its=>F a=some {cls:= .type "tuple",data:= .seq (de its) n}→_) (show fM (dT d.1) (fM (dT d.2) (· =[])) its from r) (fun x r1 h1 h2 ho=> ?_) ho
 refine fM.elim (C:=fun r1=>F a=some {cls:= .type "tuple",data:= .seq (de (x::r1)) n}→_) h2 (fun y r2 h3 h4 ho=> ?_) ho
 obtain rfl:=h4
 refine dT.elim (C:=fun x=>F a=some {cls:= .type "tuple",data:= .seq (de [x,y]) n}→_) h1 (fun t ho=> ?_) ho
 exact dT.elim (C:=fun y=>F a=some {cls:= .type "tuple",data:= .seq (de [.int d.1 t,y]) n}→_) h3 (fun u ho=>⟨a,n,t,u,rfl,hF _ _ ho⟩) ho
theorem v9{own:Bool}{args:List V}{bw:List Value}(h:iE args fun v=>jn F4 hp v fun l=>l.length<64∧∃l':List (Int×Int),(l'.Perm l∧l'.Pairwise fun a b=>a.1<b.1)∧kD own F4 l' hp K)(R:R B W hp s)(rs:dD W bw args)(P:dH B W s K Q):
  ar (model B.prog B.w) A (call (.builtin "sorted") bw) Q E s:=by
 refine eA h (fun v h rs=>rs.inv1 fun va ra=>iZ R ra h fun l h r=>jI.elim r fun a items n hl hz q=> ?_) rs
 obtain⟨h64,l',⟨p1,p2⟩,h⟩:=h
 have el:=q.length
 refine t8 (vs:=items.toList) (l:=l) ⟨_,hl,rfl,n,rfl⟩ (Kc R.sub q) (el▸y7 p1 p2) (el▸h64) fun ix a1 a2=> ?_
 rw[el]at a1 a2
 refine(Kd a1 a2).elim fun b1 b2=> ?_
 obtain rfl:=Dt b1 b2 p1 p2
 have g:dP s {s with heap:=sortedAll s.heap items.toList (de (ix.toList.map fun i=>items.toList.getD i Value.none))}:=⟨fun M M e=>sortedAll_old e,rfl,rfl⟩
 refine(sortedAll_at s.heap items.toList (de (ix.toList.map fun i=>items.toList.getD i Value.none))).elim fun e hD=> ?_
 have q2:bI (ff W.F F4) (ix.toList.map fun i=>items.toList.getD i Value.none) (ix.toList.map fun i=>l.getD i (0,0)):=wA q _ fun i m=>cI.mp (a1.mem_iff.mp m)
 have hz2:(de (ix.toList.map fun i=>items.toList.getD i Value.none)).size≤bS:=by rw[cA,q2.length];exact h.1
 have h0:=cc (h:=s.heap) (cN s.heap.objs.size)
 induction own using ah with
 |false=>exact P.ins R g h0 hD h.2 (.mk _ _ e Fz.ins_at hz2 (q2.mono fun M M r=>r.mono (Fz.le_ins (R.dead h0).2.1)))
 |true=>exact P.add R g h0 (o:= .list F4 _) (.mk _ e hD hz2 q2) h.2
end
section
variable{prog:Program}{w:World}{A:bv}{E:Value→ag→Prop}{s:ag}{env:Env}
theorem uT{f:Value}{trees:List (Bool×Sem Value)}{jS:List (Option Str×Sem Value)}{Q:Args→ag→Prop}(hst: ∀t∈trees,t.1=false)(hall:jS.all (·.1.isSome)=true)
  (h:ar (model prog w) A (spliced trees) (fun vs s₁=>ar (model prog w) A (evalAll (jS.map (·.2))) (fun ks s₂=>Q ⟨vs,(jS.filterMap (·.1)).zip ks⟩ s₂) E s₁) E s):
  ar (model prog w) A (evalArgs f true trees jS) Q E s:=by
 induction trees using aO with
 |nil=>
  refine evalArgs_kw_nil hall ?_
  have:ar (model prog w) A (pure []) (fun vs s₁=>ar (model prog w) A (evalAll (jS.map (·.2))) (fun ks s₂=>Q ⟨vs,(jS.filterMap (·.1)).zip ks⟩ s₂) E s₁) E s:=h
  exact fun Γ p hΓ=>this Γ p hΓ Γ p hΓ
 |cons t rest=>
  obtain⟨b,x⟩:=t
  have:b=false:=hst _ (.head _)
  subst this
  exact evalArgs_kw hall h
inductive lJ(s:ag):Value→List (Option Str×Sem Value)→Prop
 |builtin (id) {jS}:lJ s (.builtin id) jS
 |type (T):lJ s (.type T) []
 |func {a o fd jS}:s.heap.get? a=some o→o.data= .func fd→lJ s (.ref a) jS
 |cls {a o c jS}:s.heap.get? a=some o→o.data= .cls c→o.cls= .type "type"→lJ s (.ref a) jS
theorem fC{pos:Pos}{f:Value}{first:List Value}{trees:List (Bool×Sem Value)}{jS:List (Option Str×Sem Value)}{Q:Value→ag→Prop}(hst: ∀t∈trees,t.1=false)(hall:jS.all (·.1.isSome)=true)
  (h:ar (model prog w) A (spliced trees) (fun vs s₁=>ar (model prog w) A (evalAll (jS.map (·.2))) (fun ks s₂=>lJ s₂ f jS∧ar (model prog w) A (call f (first++vs) ((jS.filterMap (·.1)).zip ks)) Q E s₂) E s₁) E s):
  ar (model prog w) A (callWith pos f first trees jS) Q E s:=by
 have h':=uT (f:=f) (Q:=fun x s₁=>lJ s₁ f jS∧ar (model prog w) A (call f (first++x.pos) x.kw) Q E s₁) hst hall h
 have hany:trees.any (·.1)=false:=by
  rw[List.any_eq_false]
  intro t ht
  rw[hst t ht];simp
 have hany2:jS.any (·.1.isNone)=false:=by
  rw[List.any_eq_false]
  intro t ht
  have:=ay.mp hall t ht
  rcases hq:t.1 with _|_<;>simp_all
 have tail: ∀{t:Sem Value} {s₁:ag},ar (model prog w) A t Q E s₁→ar (model prog w) A (t>>=fun r=>holding [r] point>>=fun M=>pure r) Q E s₁:=
  fun ht=>aa (bF ht (fun r s₂ hr=>aa (aU (wpAny_point (ao hr)))) fun M M x=>x)
 unfold callWith
 refine aa (aU (bF h' (fun x s₁ h₁=>aa (aJ ?_)) fun M M x=>x))
 rw[hany,hany2,Bool.or_self]
 obtain⟨kf,hc⟩:=h₁
 cases kf with
 |builtin id=>exact aa (m:=keeperOf (.builtin id)) (ao (tail hc))
 |type T=>exact aa (m:=keeperOf (.type T)) (ao (tail hc))
 |func ho hd=>
  refine aa (m:=keeperOf (.ref _)) ?_
  unfold keeperOf
  refine aa (wpAny_load ho ?_)
  rw[hd]
  refine ao ?_
  show ar _ _ (if trees.length+2*jS.length>30 then _ else _) _ _ _
  split
  ·exact tail hc
  ·exact tail (by unfold callMarked;exact Calls.wpAny_keep hc)
 |cls ho hd hcl=>
  refine aa (m:=keeperOf (.ref _)) ?_
  unfold keeperOf
  refine aa (wpAny_load ho ?_)
  rw[hd]
  refine aa (wpAny_specialOf (T:="type") ⟨_,ho,hcl⟩ F.lookup_type_call ?_)
  refine ao ?_
  exact tail hc
inductive zA(s:ag)(o:Value):Prop
 |mk (T id:String):s.TypeIs o T→typeLookup (.type T) "__getitem__"=pure (some (.builtin id))→zA s o
theorem CV{C:Sem Value→Prop}{e:Expr}{o i:Value}(a:C (operate [i,o] (getItem o i)))(b:C (operate [o,i] (getItem o i))):C (subscripted e false o i):=by
 induction e using bC with
 |Slice _ _ c _=>induction c using aw with
  |none=>exact a
  |some c=>exact b
 |_=>exact b
theorem l3{value slice:Expr}{pos:Pos}{Q:Value→ag→Prop}
  (h:ar (model prog w) A (eval value env) (fun o s₁=>ar (model prog w) A (eval slice env) (fun i s₂=>zA s₂ o∧ar (model prog w) A (getItem o i) Q E s₂) E s₁) E s):
  ar (model prog w) A (eval (.Subscript value slice pos) env) Q E s:=by
 rw[eval_Subscript]
 refine aa (bF h (fun o s₁ h₁=>aa (aU (bF h₁ (fun i s₂ h₂=>aa (aJ ?_)) fun M M x=>x)))
  fun M M x=>x)
 obtain⟨⟨T,id,hT,hl⟩,hg⟩:=h₂
 have key:ar (model prog w) A (subscripted slice false o i) (fun r s₃=>ar (model prog w) A (letTemporaryGo value o r>>=fun M=>pure r) Q E s₃) E s₂:=by
  have:ar (model prog w) A (getItem o i) (fun r s₃=>ar (model prog w) A (letTemporaryGo value o r>>=fun M=>pure r) Q E s₃) E s₂:=
   bF hg (fun r s₃ h₃=>aa (wpAny_letTemporaryGo (ao h₃))) fun M M x=>x
  exact CV (C:=fun x=>ar (model prog w) A x _ E s₂) (wpAny_operating this) (wpAny_operating this)
 refine aa ?_
 rw[getitemInPython_of_ne hT.not_modules]
 refine aa (wpAny_specialOf hT hl ?_)
 first
  |exact ao (aa key)
  |exact aa (ao (aa key))
  |exact aa key
end
section
open Builtin Builtin.ObjectAttr
section
variable{prog:Program}{w:World}{A:bv}{E:Value→ag→Prop}{s:ag}{h:dq}{g:Array GenState}{d:Drawn}{t:Nat}{os:OsState}
variable{nm q:Str}{C N x:aB}{bs:List Value}{sn:List Str}{sub:List Value}{ab:Bool}{col:Option Bool}{dd:Option aB}{k0 k1 k2 k3 k5:Option Value}{newId:String}
 {mN mA:Str→Option Value} {name:Str} {v:Value}
theorem BT:typeLookup (.type "function") "__get__"=pure (some (.builtin "function.__get__")):=by rw[cq,bB];kernel_rfl
theorem K6:typeLookup (.type "function") "__set__"=pure none:=by rw[cq,bB];kernel_rfl
theorem K8:typeLookup (.type "function") "__delete__"=pure none:=by rw[cq,bB];kernel_rfl
theorem Ca{p:aB}{o:Obj}{tp:Value}{R:Result→ag→Prop}(ho:s.heap.get? p=some o)(hc:o.cls= .type "function")
  (h:R (.ok (.ret (.ref s.heap.objs.size))) {s with heap:=s.heap.push {cls:= .type "method",data:= .fields #[.ref p,.ref x]}}):dX (model prog w) A (.call (.builtin "function.__get__") ⟨[.ref p,.ref x,tp],[]⟩) R s:=by
 obtain⟨hh,g,dr,t,os⟩:=s
 refine codeAny_call_builtin KF.slot_fn.plain KF.entry_fn (KF.slot_fn.check _ _ _ _ _ _ _ _ ⟨_,ho,hc⟩ (KF.args_fn _ _ _) ?_)
 repeat k_node
 exact h
theorem yM{expr:Bool}{f:aB}{of:Obj}{Q:Value→ag→Prop}
  (hC:h.get? C=some (excClassObj nm q C N bs [.type "object"] true sn sub ab col dd k0 k1 k2 k3 k5 newId)) (hn:h.Ns N mN) (hng:mN "__getattribute__"=none) (hnh:mN "__getattr__"=none)
  (hf:mN name=some (.ref f)) (hfo:h.get? f=some of) (hfc:of.cls= .type "function") {y:Option Value} (hB:typeLookup (.type "object") name=pure y)
  {o:Obj} {dx:aB} (hx:h.get? x=some o) (hc:o.cls= .ref C) (hnc: ∀c,o.data≠ .cls c) (hdx:o.dict=some dx) (hns:h.Ns1 dx mA) (hsh:mA name=none) (hcg:(["__module__","__name__","__qualname__","__doc__","__annotations__"]:List Str).contains name=false) (hq: ∀t,Q (.ref h.objs.size) ⟨h.push {cls:= .type "method",data:= .fields #[.ref f,.ref x]},g,d,t,os⟩):
  ar (model prog w) A (getAttr (.ref x) name expr) Q E ⟨h,g,d,t,os⟩:=by
 obtain⟨oc,od,odat,osl⟩:=of
 simp only at hfc
 subst hfc
 unfold getAttr getAttrBy
 repeat (first|(with_reducible refine du hx ?_;rw[hc])|(with_reducible refine wpAny_typeLookup_exc hC hn F.mro_object F.lk_object_ga ?_;rw[hng])|wp_step)
 show ar _ _ ((runValue (.builtin "proto.getattr_hooked" ⟨[.ref x,.str name t],[]⟩)).onRaise (noteIf true (.ref x) (.str name t))) _ _ _
 refine wpAny_onRaise (wpAny_runValue (codeAny_builtin F.plainObj_entry_getattr_hooked ?_))
 unfold Builtin.«proto.getattr_hooked»
 repeat (first|(with_reducible refine du hx ?_;rw[hc])|(with_reducible refine wpAny_typeLookup_exc hC hn F.mro_object F.lk_object_getattr ?_;rw[hnh])|(with_reducible refine wpAny_typeLookup_exc hC hn F.mro_object hB ?_;rw[hf])|(with_reducible refine bq BT ?_)|(with_reducible refine bq K6 ?_)|(with_reducible refine bq K8 ?_)|wp_step)
 split
 ·exact absurd (by assumption) (hnc _)
 unfold instanceDict
 repeat (first|(with_reducible refine du hx ?_;rw[hc])|with_reducible refine du hC ?_|wp_step)
 rw[hdx]
 repeat (first|(with_reducible refine wpAny_nsGet hns.ns ?_;rw[hsh])|wp_step)
 rw[hcg]
 repeat (first|(with_reducible refine du hx ?_;rw[hc])|(with_reducible refine wpAny_typeLookup_exc hC hn F.mro_object F.lk_object_getattr ?_;rw[hnh])|wp_step)
 exact Ca hfo rfl (ao (ao (hq _)))
end
end
section
open Builtin Builtin.ObjectAttr
structure xM(name:Str):Prop where
 look:typeLookup (.type "function") name=pure none
section
variable{prog:Program}{w:World}{A:bv}{E:Value→ag→Prop}{s:ag}{h:dq}{g:Array GenState}{d:Drawn}{t:Nat}{os:OsState}{name:Str}{v:Value}
theorem Ex:typeLookup (.type "function") "__getattribute__"=pure (some (.builtin "object.__getattribute__")):=by rw[cq,bB];kernel_rfl
theorem NC:typeLookup (.type "function") "__getattr__"=pure none:=by rw[cq,bB];kernel_rfl
theorem I2:typeLookup (.type "function") "__setattr__"=pure (some (.builtin "object.__setattr__")):=by rw[cq,bB];kernel_rfl
theorem qo:Slot "function" "__getattribute__" "object.__getattribute__":=
 .of (owner:="object") (n:="__getattribute__") Ex (by decide+kernel) (by decide+kernel) (by decide+kernel) (by first|exact .inl (by decide+kernel)|exact .inr (by decide+kernel)) (by rw[isSubtype_type];kernel_rfl)
theorem qm:Slot "function" "__setattr__" "object.__setattr__":=
 .of (owner:="object") (n:="__setattr__") I2 (by decide+kernel) (by decide+kernel) (by decide+kernel) (by first|exact .inl (by decide+kernel)|exact .inr (by decide+kernel)) (by rw[isSubtype_type];kernel_rfl)
theorem Fq(a b:Value):argsOk "object.__getattribute__" ⟨[a,b],[]⟩:=by unfold argsOk;kernel_rfl
theorem Fp(a b c:Value):argsOk "object.__setattr__" ⟨[a,b,c],[]⟩:=by unfold argsOk;kernel_rfl
theorem qV{pl:Sem Bool}{f dx:aB}{fd:FuncData}{sl:Array (Option Value)}{m:Str→Option Value}{Q:Value×List Value→ag→Prop}
  (hf:h.get? f=some ⟨.type "function",some dx,.func fd,sl⟩) (hn:h.Ns1 dx m) (hm:m name=some v) (hN:xM name) (hh:handedOut v=pure v) (hq: ∀t,Q (v,[]) ⟨h,g,d,t,os⟩):
  ar (model prog w) A (getMethod (.ref f) name pl) Q E ⟨h,g,d,t,os⟩:=by
 unfold getMethod specialOf
 repeat (first|(with_reducible refine du hf ?_)|(with_reducible refine bq Ex ?_)|(with_reducible refine bq NC ?_)|(with_reducible refine bq hN.look ?_)|simp only[F.canon_object_ga,Bool.false_eq_true,if_false]|(with_reducible refine wpAny_nsGet hn.ns ?_;rw[hm])|wp_step)
 refine bq (qo.bind _) ?_
 refine wpAny_call_entry qo (rest:=[.str name t]) ⟨_,hf,rfl⟩ F.entry_object_getattribute ?_ (Fq _ _)
 unfold Builtin.«object.__getattribute__»
 refine aa (m:=slotArgs _ _ _) (bq (a:=(.ref f,[.str name t])) (by rfl) ?_)
 refine aa (m:=attrName _) (bq (a:=name) (by rfl) ?_)
 refine aa (m:=typeOf _) (wpAny_typeOf (T:="function") ⟨_,hf,rfl⟩ ?_)
 have fnd: ∀E,ar (model prog w) A.in1 (find (.ref f) (.type "function") name) (fun r s'=>r= .value v∧s'=⟨h,g,d,t+1,os⟩) E ⟨h,g,d,t+1,os⟩:=by
  intro E
  unfold find
  refine aa (bq hN.look ?_)
  refine aa (ao (aa (ao ?_)))
  unfold ownThenClass inOwnDict ObjectAttr.ownDict
  refine aa (aa (aa (m:=loadHead _) (du hf ?_)))
  dsimp only
  unfold instanceDict
  refine aa (du hf ?_)
  refine ao ?_
  refine wpAny_nsGet hn.ns ?_
  rw[hm]
  exact aa (wpAny_rule (ao ⟨rfl,rfl⟩))
 have fin:ar (model prog w) A.in1 (find (.ref f) (.type "function") name) (fun r s'=>r= .value v∧s'=⟨h,g,d,t+1,os⟩) (fun e s'=>ar (model prog w) A (getattributeRaised (Value.ref f) (Value.str name t) (Value.type "function") e none true false) (fun a s'=>ar (model prog w) A (pure (a,[])) Q E s') E s') ⟨h,g,d,t+1,os⟩:=fnd _
 refine aa (bF fin (fun r s' hr=> ?_) fun M M z=>z)
 obtain⟨rfl,rfl⟩:=hr
 refine ao ⟨_,rfl,?_⟩
 rw[hh]
 exact ao (ao (hq _))
theorem K7:mroOf (.type "function")=pure [.type "function",.type "object"]:=by kernel_rfl
theorem BS(self:Value):refuseLoop self "__setattr__" [.type "function",.type "object"]=pure ():=by kernel_rfl
theorem su{f:aB}{fd:FuncData}{sl:Array (Option Value)}{Q:Unit→ag→Prop}
  (hf:h.get? f=some ⟨.type "function",none,.func fd,sl⟩) (hN:xM name)
  (hq: ∀h' tk',h'.get? f=some ⟨.type "function",some h.objs.size,.func fd,sl⟩→h'.Ns1 h.objs.size (fun y=>if y=name then some v else none)→h'.ExactDictFk h.objs.size→(∀b o,b≠f→h.get? b=some o→h'.get? b=some o)→Q () ⟨h',g,d,tk',os⟩):
  ar (model prog w) A (setAttr (.ref f) name v) Q E ⟨h,g,d,t,os⟩:=by
 unfold setAttr
 repeat (first|(with_reducible refine du hf ?_)|(with_reducible refine bq Ex ?_)|(with_reducible refine bq I2 ?_)|(with_reducible refine bq hN.look ?_)|wp_step)
 refine bq (qm.bind _) ?_
 refine aa ?_
 show ar _ _ (call (.builtin "object.__setattr__") [.ref f,.str name t,v]) _ _ _
 refine wpAny_call_entry (self:= .ref f) qm (rest:=[.str name t,v]) ⟨⟨.type "function",none,.func fd,sl⟩,hf,rfl⟩ F.entry_object_setattr ?_ (Fp _ _ _)
 unfold Builtin.«object.__setattr__»
 rw[if_neg (by simp)]
 refine aa (m:=refuseIfOverridden _ _) ?_
 rw[refuse_eq]
 refine aa (wpAny_typeOf (T:="function") ⟨⟨.type "function",none,.func fd,sl⟩,hf,rfl⟩ (aa (bq K7 (bq (BS _) ?_))))
 refine aa (m:=attrName _) (bq (a:=name) (by rfl) ?_)
 refine aa (m:=typeOf _) (wpAny_typeOf (T:="function") ⟨⟨.type "function",none,.func fd,sl⟩,hf,rfl⟩ ?_)
 refine aa (bq hN.look ?_)
 refine aa (ao ?_)
 show ar _ _ (storeInOwnDict (.ref f) (.type "function") (.str name t) name v false) _ _ _
 unfold storeInOwnDict
 refine aa (m:=ownStreamTells _ _) (bq (a:=()) (by kernel_rfl) ?_)
 rw[if_neg (by decide)]
 refine aa (m:=ownDictForStores _) ?_
 show ar _ _ (instanceDict f true) _ _ _
 unfold instanceDict
 refine aa (du hf ?_)
 dsimp only
 rw[if_neg (by rw[(by decide+kernel:typeHasDict (.type "function")=true)];decide)]
 have hfs:f≠h.objs.size:=cR (dK hf)
 refine aa (wpAny_alloc' ?_)
 refine aa (wpAny_update' (aD _ hf) ?_)
 refine bq (a:=some h.objs.size) (by kernel_rfl) ?_
 have hf₁:(h.push {cls:= .type "dict",data:= .dict #[]}).get? f=some ⟨.type "function",none,.func fd,sl⟩:=aD _ hf
 have hgd:((h.push {cls:= .type "dict",data:= .dict #[]}).update f fun o=>{cls:=o.cls,dict:=some h.objs.size,data:=o.data,slots:=o.slots}).get? h.objs.size
   =some {cls:= .type "dict",data:= .dict #[]}:=
  (dq.get?_update_ne _ _ _ _ hfs.symm).trans (dq.get?_push_at rfl rfl)
 have hnd:((h.push {cls:= .type "dict",data:= .dict #[]}).update f fun o=>{cls:=o.cls,dict:=some h.objs.size,data:=o.data,slots:=o.slots}).Ns h.objs.size (fun M=>none):=
  ⟨_,#[],_,hgd,rfl,fun e he=>absurd he (by simp),fun M=>rfl⟩
 show ar _ _ (storeInDict h.objs.size (.str name t) name v) _ _ _
 unfold storeInDict newKeyGuard
 refine aa (ao (aa (wpAny_nsSet1EFk (dq.Ns1.of_empty hnd) fun h' hn' hs hkeepD=> ?_)))
 obtain⟨oD,esD,epD,hoD,hdD,hcD⟩:=hn'.count (Within.cons name v Within.nil)
 refine aa (wpAny_lookBehind hoD (by rw[hdD];exact pastItsLine_dict (ad hcD (by rw[b4,List.length_nil,sizeLine_eq];lia))) ?_)
 refine ao ⟨_,rfl,ao (ao ?_)⟩
 refine hq h' _ ?_ hn' (let⟨od',e',c',d'⟩:=hkeepD _ hgd;⟨od',e',c',d'⟩) fun b ob hbx hb=> ?_
 ·exact(hs.2 f hfs).trans (dq.get?_update_self _ hf₁ rfl)
 ·exact(hs.2 b (cR (dK hb))).trans ((dq.get?_update_ne _ _ _ _ hbx).trans (aD _ hb))
end
end
section
variable{prog:Program}{w:World}{A:bv}{E:Value→ag→Prop}{s:ag}
theorem la:PlainAttrs "re.Pattern":=
 ⟨⟨"object.__getattribute__",by rw[cq,bB];kernel_rfl,by decide+kernel⟩,by rw[cq,bB];kernel_rfl⟩
theorem gV:Slot "re.Pattern" "search" "re.Pattern.search":=
 .of (owner:="re.Pattern") (n:="search") (by rw[cq,bB];kernel_rfl) (by decide+kernel) (by decide+kernel) (by decide+kernel)
  (by first|exact .inl (by decide+kernel)|exact .inr (by decide+kernel)) (by rw[isSubtype_type];kernel_rfl)
theorem ky:typeOf (.builtin "re.Pattern.search")=pure (.type "method_descriptor"):=by show builtinType _=_;rw[builtinType_eq_fast];kernel_rfl
theorem ke:entryFor table "re.Pattern.search"=some Builtin.«re.Pattern.search»:=entryFor_of_tree (by kernel_rfl)
theorem kL(a b:Value):argsOk "re.Pattern.search" ⟨[a,b],[]⟩:=by unfold argsOk;kernel_rfl
theorem jm{α:Type}{Q:PUnit→ag→Prop}(b:α→Bool)(g:α→String)(f:α→PUnit→Sem (ForInStep PUnit))(hf: ∀i u,f i u=(if b i=true then(do rule (g i);pure (.yield ⟨⟩))else pure (.yield ⟨⟩))):
  ∀(l:List α),Q ⟨⟩ s→ar (model prog w) A (forIn l PUnit.unit f) Q E s
 |[],h=>ao h
 |x::l,h=>by
  rw[List.forIn_cons,hf]
  by_cases hb:b x=true
  ·rw[if_pos hb]
   exact aa (aa (wpAny_rule (ao (jm b g f hf l h))))
  ·rw[if_neg hb]
   exact aa (ao (jm b g f hf l h))
theorem yq{m:Sre.M}{Q:Option Sre.M→ag→Prop}(h1:m.answer=some false)(h2:m.frames=[])(h3:m.outcome=none)(hQ:Q none s):ar (model prog w) A (Builtin.Re.reRunToEnd m) Q E s:=by
 have e1:m.step={m with outcome:=some .failed}:=by
  unfold Sre.M.step
  rw[h3,h1,h2]
  rfl
 have e4:m.runFor Builtin.Re.reTurnSteps={m with outcome:=some .failed}:=by
  show(if m.outcome.isSome then m else Sre.M.runFor 3 m.step)=_
  rw[h3,e1]
  rfl
 have e5:Builtin.Re.reDrive (2^64) m=pure {m with outcome:=some .failed}:=by
  show(if(m.runFor Builtin.Re.reTurnSteps).outcome.isSome then pure (m.runFor Builtin.Re.reTurnSteps)else _)=_
  rw[e4]
  rfl
 unfold Builtin.Re.reRunToEnd
 rw[e5]
 refine aa (ao (aa (jm (fun i=>({m with outcome:=some .failed}:Sre.M).seen.has i) (fun i=>Sre.names.getD i "") _ (fun i u=> ?_) _ ?_)))
 ·rcases hb:({m with outcome:=some .failed}:Sre.M).seen.has i with _|_<;>simp
 ·exact ao hQ
def ou(code text:Array Nat):Prop:=(Sre.forSearch code text 0 0 text.size false).answer=some false∧(Sre.forSearch code text 0 0 text.size false).frames=[]∧(Sre.forSearch code text 0 0 text.size false).outcome=none
structure pe(h:dq)(a:aB)(code:Array Nat):Prop where
 get: ∃fs tp items n t1 t2,h.get? a=some {cls:= .type "re.Pattern",data:= .fields fs}∧fs.getD 6 .none= .int 0 t1∧fs.getD 2 .none= .int 0 t2∧fs.getD 5 .none= .ref tp∧h.get? tp=some {cls:= .type "tuple",data:= .seq items n}∧
  (items.map Builtin.Re.reRawOf).map (·.toNat)=code
theorem sP{a:aB}{code:Array Nat}{x:Str}{t:Tok}{Q:Value→ag→Prop}(P:pe s.heap a code)(hx:x.cps.size<2^62)
  (h: ∀A,ar (model prog w) A (Builtin.Re.reRunToEnd (Sre.forSearch code x.cps 0 0 x.cps.size false)) (fun m s=>match m with |some m=>ar (model prog w) A (Builtin.Re.reNewMatch (.ref a) (.str x t) 0 0 x.cps.size m) Q E s|none=>Q .none s) E s):
  ar (model prog w) A (call (.builtin "re.Pattern.search") [.ref a,.str x t]) Q E s:=by
 refine P.get.elim fun fs zz=>zz.elim fun tp zz=>zz.elim fun items zz=>zz.elim fun n zz=>zz.elim fun t1 zz=>zz.elim fun t2 zz=>zz.elim fun ho zz=>zz.elim fun e6 zz=>zz.elim fun e2 zz=>zz.elim fun e5 zz=>zz.elim fun ht hc=> ?_
 refine wpAny_call_entry gV ⟨_,ho,rfl⟩ ke ?_ (kL _ _)
 unfold Builtin.«re.Pattern.search»
 refine aa ?_
 unfold Builtin.Re.reTarget
 refine aa (bq (a:=[some (.str x t),none,none]) (by rfl) ?_)
 refine aa (ao (aa (ao ?_)))
 refine aa (m:=fieldsOf _) ?_
 unfold fieldsOf
 refine aa (wpAny_load ho (ao ?_))
 refine aa (bq (a:=(x.cps,0)) (by rfl) ?_)
 rw[e6]
 show ar _ _ (Builtin.Re.reNoCollectionInside (.str x t) 0>>=_) _ _ _
 refine aa (bq (a:=()) (by rfl) ?_)
 dsimp only
 rw[e5,e2]
 refine aa (m:=Builtin.Re.reRawItems _) ?_
 unfold Builtin.Re.reRawItems
 refine aa (wpAny_seqItems ht rfl (ao (ao ?_)))
 unfold Builtin.Re.reAnswer
 dsimp only[Option.getD_some]
 have emin:min ((2^63-1:Int)).toNat x.cps.size=x.cps.size:=by grind
 have emin0:min ((0:Int)).toNat x.cps.size=0:=by simp
 rw[hc,emin,emin0]
 have eg:Builtin.Re.reRawNat (.int 0 t2)=0:=rfl
 rw[eg]
 refine aa (bF (h _) (fun m s1 q=> ?_) fun M M e=>e)
 cases m with
 |none=>exact ao ⟨_,rfl,q⟩
 |some m=>exact aa (bF q (fun v s2 q=>ao ⟨_,rfl,q⟩) fun M M e=>e)
theorem wm{a:aB}{code:Array Nat}{x:Str}{t:Tok}{Q:Value→ag→Prop}(P:pe s.heap a code)(hx:x.cps.size<2^62)(hs:ou code x.cps)(hQ:Q .none s):
  ar (model prog w) A (call (.builtin "re.Pattern.search") [.ref a,.str x t]) Q E s:=sP P hx fun M=>(yq hs.1 hs.2.1 hs.2.2 hQ)
theorem yp{m m':Sre.M}{Q:Option Sre.M→ag→Prop}(h:m.runFor 4=m')(h3:m'.outcome=some .matched)(hQ:Q (some m') s):ar (model prog w) A (Builtin.Re.reRunToEnd m) Q E s:=by
 have e5:Builtin.Re.reDrive (2^64) m=pure m':=by
  show(if(m.runFor Builtin.Re.reTurnSteps).outcome.isSome then pure (m.runFor Builtin.Re.reTurnSteps)else _)=_
  rw[show m.runFor Builtin.Re.reTurnSteps=m' from h,h3]
  rfl
 unfold Builtin.Re.reRunToEnd
 rw[e5]
 refine aa (ao (aa (jm (fun i=>m'.seen.has i) (fun i=>Sre.names.getD i "") _ (fun i u=> ?_) _ ?_)))
 ·rcases hb:m'.seen.has i with _|_<;>simp
 ·rw[h3];exact ao hQ
def A6(code text:Array Nat):Prop:=∃m':Sre.M,(Sre.forSearch code text 0 0 text.size false).runFor 4=m'∧m'.outcome=some .matched
def zB(code text:Array Nat)(b:Bool):Prop:=match b with
 |true=>A6 code text
 |false=>ou code text
theorem nf(n:Str)(hn:n=ae "__bool__"∨n=ae "__len__"):typeLookup (.type "re.Match") n=pure none:=by
 rcases hn with rfl|rfl<;>(rw[cq,bB];kernel_rfl)
theorem wk{a:aB}{code:Array Nat}{x:Str}{t:Tok}{Q:Value→ag→Prop}(P:pe s.heap a code)(hx:x.cps.size<2^62)(hs:A6 code x.cps)
  (hQ: ∀tp vs,Q (.ref (s.heap.push tp).objs.size) {s with heap:=(s.heap.push tp).push {cls:= .type "re.Match",data:= .fields vs}}):
  ar (model prog w) A (call (.builtin "re.Pattern.search") [.ref a,.str x t]) Q E s:=by
 refine sP P hx fun M=>(hs.elim fun m' hm=>yp hm.1 hm.2 ?_)
 show ar _ _ (Builtin.Re.reNewMatch _ _ _ _ _ _) _ _ _
 unfold Builtin.Re.reNewMatch
 refine aa (wpAny_newTuple ?_ (show 2≤sizeLine from by decide))
 exact dt (hQ _ _) (show 6≤sizeLine+2 from by decide)
theorem tV{a:aB}{vs:Array Value}{Q:Bool→ag→Prop}(h:s.heap.get? a=some {cls:= .type "re.Match",data:= .fields vs})(hQ:Q true s):ar (model prog w) A (truthy (.ref a)) Q E s:=by
 unfold truthy
 have T:s.TypeIs (.ref a) "re.Match":=⟨_,h,rfl⟩
 refine aa (wpAny_callSpecial?_none T (nf _ (.inl rfl)) ?_)
 refine aa (wpAny_specialOf T (nf _ (.inr rfl)) ?_)
 exact ao hQ
end
inductive ox(B:bW)(C:aB)(mN:Str→Option Value):Prop
 |mk (nm q:Str) (N:aB) (bs:List Value) (sn:List Str) (sub:List Value) (ab:Bool) (col:Option Bool) (dd:Option aB) (k0 k1 k2 k3 k5:Option Value) (newId:String)
  (hC:B.h0.get? C=some (excClassObj nm q C N bs [.type "object"] true sn sub ab col dd k0 k1 k2 k3 k5 newId)) (hN:B.h0.Ns N mN) (hCt:C ∉ B.tabs) (hNt:N ∉ B.tabs)
  (ga:mN "__getattribute__"=none) (gh:mN "__getattr__"=none) (sa:mN "__setattr__"=none)
inductive zG(B:bW)(C:aB)(name:Str)(f:aB):Prop
 |mk (mN:Str→Option Value) (of:Obj) (y:Option Value) (c:ox B C mN) (hm:mN name=some (.ref f)) (ho:B.h0.get? f=some of) (hc:of.cls= .type "function") (ht:f ∉ B.tabs) (hB:typeLookup (.type "object") name=pure y)
inductive FH(B:bW)(C:aB)(name:Str):Prop
 |mk (mN:Str→Option Value) (c:ox B C mN) (hm:mN name=none) (hB:typeLookup (.type "object") name=pure none)
section
variable{B:bW}{G:fS}{W W':Wd}{hp hp':Hp}{s s':ag}{A:bv}{E:Value→ag→Prop}{K:V→Hp→Prop}{Q:Value→ag→Prop}
theorem R.old(R:R B W hp s){a:aB}{o:Obj}(e:B.h0.get? a=some o)(ht:a ∉ B.tabs):s.heap.get? a=some o:=R.sub a o (R.base a o e ht)
theorem R.oldNs(R:Internal.R B W hp s){N:aB}{m:Str→Option Value}(n:B.h0.Ns N m)(ht:N ∉ B.tabs):s.heap.Ns N m:=
 n.elim fun o n=>n.elim fun es n=>n.elim fun ep n=>⟨o,es,ep,R.old n.1 ht,n.2⟩
theorem bI.eraseIdx{α β:Type}{R:α→β→Prop}{vs:List α}{us:List β}(r:bI R vs us): ∀k,bI R (vs.eraseIdx k) (us.eraseIdx k):=by
 induction r with
 |nil=>exact fun k=> .nil
 |cons a b ih=>intro k;cases k;exact b;exact .cons a (ih _)
theorem dH.write{n:Nat}{a:aB}{o o':AO}(P:dH B W s K Q)(R:R B W hp s)(x:tP a s s')(hO:kM B s'.heap W a o')(hn:W.own[n]? =some a)(e:hp[n]? =some o)(hd:o≠ .dead)(hl: ∀l,o= .loc l→∃l,o'= .loc l){v:V}{va:Value}(k:K v (hp.set n o'))(q:a7 W va v):Q va s':=by
 have hF:W.F a=none:=(R.off n a hn).elim id fun d=>absurd (af (e.symm.trans d)) hd
 exact P W _ s' v va k (x.le (.inl (c8 hn))) (R.write x hn hF hO fun z=>z.elim fun l z=>hl l (af (e.symm.trans z))) q
theorem SameBut.but{a:aB}{h':dq}{t:Nat}(hs:dq.SameBut a s.heap h')(e: ∃o,h'.get? a=some o):tP a s {s with heap:=h',toks:=t}:=⟨fun b o hb e=>(hs.2 b hb).trans e,e,rfl,rfl⟩
theorem mI{n:Nat}{a:aB}{ty:Ty}{l l':List (den ty)}{items':Array Value}{m:Nat}{h':dq}{t:Nat}{v:V}{va:Value}(R:R B W hp s)(hn:W.own[n]? =some a)(e:hp[n]? =some (.list ty l))(hs:dq.SameBut a s.heap h')(hl:IsL h' a items' m)(hz:l'.length≤bS)
  (rs:bI (ff W.F ty) items'.toList l') (P:dH B W s K Q) (k:K v (hp.set n (.list ty l'))) (rv:a7 W va v):Q va {s with heap:=h',toks:=t}:=
 P.write (o':= .list ty l') R (SameBut.but hs ⟨_,hl⟩) (.mk items' m hl (by rw[←aN,rs.length];exact hz) rs) hn e nofun nofun k rv
theorem CW{l:List (List Nat)}{vs:List Value}(r:bI (ff W.F .str) vs l): ∃ps:List (Str×Tok),vs=strValues ps∧ps.map (·.1)=l.map fun x=>⟨x.toArray⟩:=by
 induction r with
 |nil=>exact⟨[],rfl,rfl⟩
 |cons a _ ih=>exact ih.elim fun ps e=>eJ.elim a fun t M=>⟨(_,t)::ps,congrArg _ e.1,congrArg _ e.2⟩
theorem BN(sep:List Nat)(l:List (List Nat)): ∀(acc:Array Nat),(l.map fun x=>(⟨x.toArray⟩:Str)).foldl (fun acc p=>acc++(sep.toArray:Array Nat)++p.cps) acc=acc++(l.flatMap fun x=>sep++x).toArray:=by
 induction l with
 |nil=>intro acc;simp
 |cons x l ih=>intro acc;rw[List.map_cons,List.foldl_cons,ih];simp
theorem qJ(sep x y:List Nat)(l:List (List Nat)):gC sep (x::y::l)=x++sep++gC sep (y::l):=rfl
theorem wX(sep:List Nat): ∀(l:List (List Nat)),gC sep l=l.headD []++(l.drop 1).flatMap fun x=>sep++x
 |[]=>rfl
 |[x]=>(bk x).symm
 |x::y::l=>by
  rw[qJ,wX sep (y::l)]
  simp
theorem Ei(sep:List Nat)(l:List (List Nat)):Builtin.Str.glued ⟨sep.toArray⟩ (l.map fun x=>⟨x.toArray⟩)=⟨(gC sep l).toArray⟩:=by
 unfold Builtin.Str.glued
 rw[wX,←List.map_drop,BN]
 cases l with
 |nil=>rfl
 |cons x l=>simp
theorem oV(sep:List Nat): ∀l:List (List Nat),(l.map (·.length)).sum+l.length*sep.length≤(gC sep l).length+sep.length
 |[]=>by show 0+0*sep.length≤0+sep.length;rw[Nat.zero_mul];exact bH (a9 _) _
 |[x]=>by show x.length+0+(0+1)*sep.length≤x.length+sep.length;rw[cF,dR];exact av _
 |x::y::l=>by
  have:=oV sep (y::l)
  simp only[qJ,List.map_cons,List.sum_cons,b4,ak,Nat.add_mul]at this ⊢
  grind
theorem xe(m:Nat)(l:List Str): ∀(a:Nat),l.foldl (· + ·.length+m) a=a+(l.map (·.length)).sum+l.length*m:=by
 induction l with
 |nil=>intro a;simp
 |cons x l ih=>
  intro a
  rw[List.foldl_cons,ih]
  rw[List.map_cons,List.sum_cons,b4,Nat.add_mul,dR,←da a,Nat.add_right_comm (a+x.length) m,da (a+x.length+_),bK m]
theorem qz{n:Nat}(h:n≤bS+bS):Builtin.Str.tooLong n=false:=by
 unfold Builtin.Str.tooLong
 rw[sizeLine_eq]
 exact decide_eq_false (bY.mpr (ad h (by decide)))
theorem yQ{sep:List Nat}{w:V}{va vw:Value}(h:jn .str hp w fun l=>(gC sep l).length≤bS∧K (.str (gC sep l)) hp)
  (R:R B W hp s) (r:a7 W va (.str sep)) (rw_:a7 W vw w) (P:dH B W s K Q):ar (model B.prog B.w) A (call (.builtin "str.join") [va,vw]) Q E s:=by
 refine eJ.elim r fun t hs=>iZ R rw_ h fun l h r=>jI.elim r fun a items n hl M rs=> ?_
 obtain⟨ps,e1,e2⟩:=CW rs
 have ei:items=(strValues ps).toArray:=by rw[←e1]
 rw[ei]at hl
 have eg:Txt.join ⟨sep.toArray⟩ (ps.map (·.1))=⟨(gC sep l).toArray⟩:=by rw[Txt.join,e2,Ei]
 have total:Builtin.Str.tooLong ((ps.map (·.1)).toArray.foldl (· + ·.length+(⟨sep.toArray⟩:Str).length) 0)=false:=by
  rw[List.foldl_toArray,e2,xe,dp,List.map_map,aE,cF,show(l.map (Str.length∘fun x=>(⟨x.toArray⟩:Str)))=l.map (·.length)from List.map_congr_left fun x M=>dp x]
  exact qz (ad (oV sep l) (bV h.1 hs))
 exact call_meets PySem.F.slot_str_join (typeIs_str _ _ _) PySem.F.entry_str_join (PySem.F.args_str_join_2 _ _) (meets_str_join_list _ t a ps total) ⟨⟨_,hl,rfl,n,rfl⟩,post_join ps ⟨eg▸eO ((dp _).symm▸h.1),fun t' k'=>eg▸P.toks R h.2 (.mk _ h.1)⟩⟩
theorem DK{x:List Nat}(h: ∀c∈x,c<128):Txt.lower ⟨x.toArray⟩=⟨(x.map f7).toArray⟩:=by rw[lower_ascii (by simpa using h),show f7=lo1 from rfl];simp
theorem CC{x:List Nat}(h: ∀c∈x,c<128):Txt.upper ⟨x.toArray⟩=⟨(x.map Jt).toArray⟩:=by rw[upper_ascii (by simpa using h),show Jt=up1 from rfl];simp
theorem HQ(c:Nat)(l:List Nat):cnt c l=mP c l:=by
 induction l with
 |nil=>rfl
 |cons x l ih=>
  rw[cnt_cons,ih]
  show _=cond (aS x c) _ _
  by_cases h:x=c
  ·subst h;rw[if_pos rfl,show aS x x=true from Nat.beq_refl x];rfl
  ·rw[if_neg h,show aS x c=false from dj.mpr fun q=>h (aV q)];exact Int.zero_add _
theorem wL{id:String}{x:List Nat}{va:Value}{args:List V}{bw:List Value}(h:IK id x args hp K)(R:R B W hp s)(r:a7 W va (.str x))(rs:dD W bw args)(P:dH B W s K Q):
  ar (model B.prog B.w) A (call (.builtin id) (va::bw)) Q E s:=
 eP h (fun h=>eA h (fun w h rs=>rs.inv1 fun vw rw_=>yQ h R r rw_ P) rs) fun h=>
 eP h (fun h=>fV h (fun h rs=>rs.inv0 (eJ.elim r fun t hz=>by
  have e:=DK h.1
  exact SC.lower (by rw[e,dp,aE];exact qz (ad hz (aG _ _))) (e▸P.toks R h.2 (.mk _ ((aE _).symm▸hz))))) rs) fun h=>
 eP h (fun h=>fV h (fun h rs=>rs.inv0 (eJ.elim r fun t hz=>by
  have e:=CC h.1
  exact SC.upper (by rw[e,dp,aE];exact qz (ad hz (aG _ _))) (e▸P.toks R h.2 (.mk _ ((aE _).symm▸hz))))) rs) fun h=>
 eP h (fun h=>eA h (fun w h rs=>rs.inv1 fun vw rw_=>fj h (fun y h rw_=>eA (C:=fun y=>a7 W vw (.str y)→ar (model B.prog B.w) A (call (.builtin "str.count") [va,vw]) Q E s) h (fun c h rw_=>eJ.elim r fun t M=>eJ.elim rw_ fun u M=>SC.count (by rw[count_cnt,HQ];exact P.toks R h (.mk _))) rw_) rw_) rs) False.elim
theorem uV{α:Type}(xs:Array α)(k:Nat):(xs.eraseIdxIfInBounds k).toList=xs.toList.eraseIdx k:=by
 unfold Array.eraseIdxIfInBounds
 split
 ·exact Array.toList_eraseIdx ..
 ·rename_i h
  rw[List.eraseIdx_of_length_le (bY.mp h)]
theorem yv{n:Nat}{t:Ty}{l:List (den t)}{a:aB}{args:List V}{bw:List Value}(h:MJ n t l args hp K)(R:R B W hp s)(hn:W.own[n]? =some a)(e:hp[n]? =some (.list t l))(r:lZ s.heap a (bI (ff W.F t) · l))
  (rs:dD W bw args) (P:dH B W s K Q):ar (model B.prog B.w) A (call (.builtin "list.pop") (.ref a::bw)) Q E s:=by
 cases r with
 |mk its m hl hz r=>
  have e1:=r.length
  rw[aN]at e1
  have hl':=e1▸hz
  cases args with
  |nil=>exact h.elim
  |cons w args=>exact fV h (fun h rs=>rs.inv1 fun vw rw_=>dA h (fun i h rw_=>dT.elim rw_ fun u=>by
    obtain⟨k,hk,hd⟩:=pK h.1 (nu t)
    obtain⟨y,hy,ry⟩:=r.get hd
    rw[cr]at hy
    have hf:Builtin.List.listFitsIndex i=true:=by
     have:=ju hk hl'
     unfold Builtin.List.listFitsIndex
     rw[decide_eq_true this.1,decide_eq_true this.2]
     rfl
    have h2:=h.2
    rw[hk]at h2
    rw[eQ,←e1]at hk
    refine call_meets PySem.F.slot_list_pop ⟨_,hl,rfl⟩ PySem.F.entry_list_pop (PySem.F.args_list_pop_2 _ _) (PySem.MeetsSeq.list_pop_at a its m i u k y hf hk hy (eO hz)) ⟨hl,?_⟩
    exact mI (t:=s.toks) R hn e (dq.SameBut.update ..) (IsL.update hl _) (ad (List.length_eraseIdx_le ..) hl') (by rw[uV];exact r.eraseIdx _) P h2 ry.emb) rw_) rs
theorem wO{id:String}{n:Nat}{t:Ty}{l:List (den t)}{a:aB}{args:List V}{bw:List Value}(h:IL id n t l args hp K)(R:R B W hp s)(hn:W.own[n]? =some a)(e:hp[n]? =some (.list t l))(r:lZ s.heap a (bI (ff W.F t) · l))
  (rs:dD W bw args) (P:dH B W s K Q):ar (model B.prog B.w) A (call (.builtin id) (.ref a::bw)) Q E s:=by
 refine eP h (fun h=>eA h (fun x h rs=>rs.inv1 fun vx rx=>zM h rx fun d h rd=> ?_) rs) fun h=>eP h (fun h=>yv h R hn e r rs P) fun h=>eP h (fun h=>fV h (fun h rs=>rs.inv0 ?_) rs) False.elim
 ·cases r with
  |mk its m hl hz r=>exact wpAny_list_append_plain ⟨m,hl⟩ (fun h' h1 h2=>h1.elim fun m' h1=>mI (t:=s.toks) R hn e h2 h1 h.1 (by rw[Array.toList_push];exact r.append (.one rd)) P h.2 rfl) (eO hz)
 ·cases r with
  |mk its m hl hz r=>
   refine call_meets PySem.F.slot_list_reverse ⟨_,hl,rfl⟩ PySem.F.entry_list_reverse (PySem.F.args_list_reverse_1 _) (AutoSeq1.list_reverse_list_0 a its m (eO hz)) ⟨hl,?_⟩
   exact mI (t:=s.toks) R hn e (dq.SameBut.update ..) (IsL.update hl _) (by rw[List.length_reverse,←r.length,aN];exact hz) (by rw[Array.toList_reverse];exact r.reverse) P h rfl
theorem oU{id:String}{v:V}{va:Value}{args:List V}{bw:List Value}(h:wQ id v args hp K)(R:R B W hp s)
  (r:a7 W va v) (rs:dD W bw args) (P:dH B W s K Q):ar (model B.prog B.w) A (call (.builtin id) (va::bw)) Q E s:=by
 cases v with
 |str x=>exact wL h R r rs P
 |int i=>exact eP h (fun h=>fV h (fun h rs=>rs.inv0 (dT.elim r fun t=>call_int_bit_length (P.toks R h.2 (.mk _)))) rs) False.elim
 |own n=>exact qG h fun t l q h=>R.own r q fun a hn r=>wO h R hn q r rs P
 |_=>exact h.elim
theorem nn{v:V}{va:Value}(hh:uK v=true)(r:a7 W va v):handedOut va=pure va:=by
 cases v with
 |none=>exact(show va= .none from r)▸rfl
 |bool b=>exact(show va= .bool b from r)▸rfl
 |int i=>exact dT.elim r fun M=>rfl
 |str x=>exact eJ.elim r fun M M=>rfl
 |val c=>
  rw[show va=c from r]
  cases c with
  |builtin id=>cases hh
  |_=>rfl
 |t0=>exact eD.elim (show eD "tuple" W.F _ va from r) fun M M M M M M=>rfl
 |tc a b=>exact eD.elim (show eD "tuple" W.F _ va from r) fun M M M M M M=>rfl
 |lst t l=>exact eD.elim (show eD "list" W.F _ va from r) fun M M M M M M=>rfl
 |own n=>exact xI.elim r fun M M=>rfl
 |rng a b c=>cases r;rfl
 |meth f s=>cases r;rfl
 |unb=>exact r.elim
theorem Cg{o:AO}{l:List (Str×V)}(h:zv o=some l):o= .attrs l:=by
 cases o with
 |attrs l'=>cases h;rfl
 |_=>cases h
theorem oo{k:Nat}{l:List (Str×V)}{x:aB}(R:R B W hp s)(hk:W.own[k]? =some x)(h:nI hp (some k)=some l):hp[k]? =some (.attrs l)∧rI s.heap W x l:=by
 refine jD h fun o e h=> ?_
 have e:=Cg h▸e
 exact⟨e,R.objs k x _ hk e⟩
theorem jl.no{m:Str→Option Value}{l:List (Str×V)}{x:Str}(r: ∀x,jl W (m x) (l.lookup x))(e:l.lookup x=none):m x=none:=(e▸r x:jl W (m x) none)
theorem jl.yes{m:Str→Option Value}{l:List (Str×V)}{x:Str}{u:V}(r: ∀x,jl W (m x) (l.lookup x))(e:l.lookup x=some u): ∃v,m x=some v∧a7 W v u:=(e▸r x:jl W (m x) (some u))
theorem w6{C a:aB}{k:Nat}{l:List (Str×V)}(R:R B W hp s)(r:A5 s.heap W a C k)(hl:nI hp (some k)=some l){P:Prop}(h: ∀mA,s.heap.InstFk a C mA→(∃o d,s.heap.get? a=some o∧o.cls= .ref C∧(∀c,o.data≠ .cls c)∧o.dict=some d∧s.heap.Ns1 d mA)→(∀x,jl W (mA x) (l.lookup x))→P):P:=by
 cases r with
 |mk o d h0 h1 h2 e r=>
  cases (oo R r hl).2 with
  |mk m hns hx rm=>
   refine h m ⟨o,h0,h1,h2,.inr ⟨d,e,fun z=> ?_,hns,hx⟩⟩ ⟨o,d,h0,h1,h2,e,hns⟩ rm
   refine hx.elim fun od zz=>zz.elim fun e3 zz=>zz.elim fun e4 M=> ?_
   exact nomatch(h1.symm.trans (af (h0.symm.trans (z▸e3))▸e4):Value.ref C= .type "dict")
structure GlbA(B:bW)(G:fS):Prop where
 meth: ∀C name f,G.meth C name=some f→zG B C name f
 free: ∀name,G.free name=true→typeLookup (.type "function") name=pure none
 dat: ∀C name,G.dat C name=true→FH B C name
 pat: ∀a ok,G.pat a=some ok→a ∉ B.tabs∧∃code,pe B.h0 a code∧(∀s W hp,R B W hp s→pe s.heap a code)∧∀x,(ok x).1=true→zB code x.toArray (ok x).2
theorem nA{b:Bool}{p:Prop}(h:cond b p False):b=true∧p:=by cases b with |true=>exact⟨rfl,h⟩|false=>exact h.elim
theorem pb{v:V}{va:Value}{name:Str}(G':GlbA B G)(h:Fo G v name hp fun u=>K u hp)(R:R B W hp s)(r:a7 W va v)(P:dH B W s K Q):ar (model B.prog B.w) A (getAttr va name true) Q E s:=by
 refine Ae (C:=fun v=>a7 W va v→ar (model B.prog B.w) A (getAttr va name true) Q E s) h (fun n h r=> ?_) r
 cases q:hp[n]? with
 |none=>rw[q]at h;exact h.elim
 |some o=>
  rw[q]at h
  cases o with
  |inst C lk=>
   refine bO h fun l hl h=>R.own (C:=fun va=>a7 W va (.own n)→ar (model B.prog B.w) A (getAttr va name true) Q E s) r q (fun a hn ro r=>w6 R ro hl fun mA I Io rm=> ?_) r
   dsimp only at h
   cases e:l.lookup name with
   |some u=>
    rw[e]at h
    refine(nA h).elim fun hd h=> ?_
    obtain⟨hh,h⟩:=nA h
    refine(jl.yes rm e).elim fun w zz=>zz.elim fun hw rw_=> ?_
    cases G'.dat C name hd with
    |mk mN c hna hB=>cases c with
     |mk nm q N bs sn sub ab col dd k0 k1 k2 k3 k5 newId hC hN hCt hNt ga gh sa=>exact load_attrFk (g:=s.gens) (d:=s.drawn) (t:=s.toks) (os:=s.os) (R.old hC hCt) (R.oldNs hN hNt) ga hna hB I hw (nn hh rw_) (P.toks R h rw_)
   |none=>
    rw[e]at h
    refine bO h fun f hf h=> ?_
    cases hcn:q7 name with
    |true=>rw[hcn]at h;exact h.elim
    |false=>
     rw[hcn]at h
     cases G'.meth C name f hf with
     |mk mN of y c hmf hfo hfc hft hB=>cases c with
      |mk nm q N bs sn sub ab col dd k0 k1 k2 k3 k5 newId hC hN hCt hNt ga gh sa=>
       refine Io.elim fun o zz=>zz.elim fun d zz=>zz.elim fun h0 zz=>zz.elim fun h1 zz=>zz.elim fun h2 zz=>zz.elim fun hd hns=> ?_
       exact yM (g:=s.gens) (d:=s.drawn) (t:=s.toks) (os:=s.os) (R.old hC hCt) (R.oldNs hN hNt) ga gh hmf (R.old hfo hft) hfc hB h0 h1 h2 hd hns (jl.no rm e) hcn fun t=>P.ins R (.push ..) (cc (av _)) (aF _ rfl) h (.mk _ _ Fz.ins_at (r.tr (JD (r:=R) (cc (av _)))))
  |_=>exact h.elim
def ji(B:bW)(W:Wd)(s:ag)(c:fK)(va f:Value)(first:List Value):Prop:=match c with
 | .fn u us=>a7 W f u∧dD W first us
 | .meth id=>f= .builtin id∧first=[va]
 | .pat ok=>f= .builtin "re.Pattern.search"∧first=[va]∧∃a code,va= .ref a∧(∀s W hp,R B W hp s→pe s.heap a code)∧∀x,(ok x).1=true→zB code x.toArray (ok x).2
def zF(T:String)(name:Str)(id:String):Prop:=PlainAttrs T∧Slot T name id∧typeOf (.builtin id)=pure (.type "method_descriptor")
theorem wP{T:String}{name:Str}{id:String}(h:qE T name=some id):zF T name id:=by
 have key: ∀(l:List ((String×Str)×String)),(∀p∈l,zF p.1.1 p.1.2 p.2)→l.lookup (T,name)=some id→zF T name id:=fun l hl h=>hl _ (fG h)
 refine key _ (fun p hp=> ?_) h
 simp only[aX,List.not_mem_nil,or_false]at hp
 rcases hp with rfl|rfl|rfl|rfl|rfl|rfl|rfl|rfl
 ·exact⟨F.plainAttrs_str,F.slot_str_join,F.type_str_join⟩
 ·exact⟨F.plainAttrs_str,F.slot_str_lower,F.type_str_lower⟩
 ·exact⟨F.plainAttrs_str,F.slot_str_upper,F.type_str_upper⟩
 ·exact⟨F.plainAttrs_str,F.slot_str_count,F.type_str_count⟩
 ·exact⟨F.plainAttrs_int,F.slot_int_bit_length,F.type_int_bit_length⟩
 ·exact⟨F.plainAttrs_list,F.slot_list_append,F.type_list_append⟩
 ·exact⟨F.plainAttrs_list,F.slot_list_pop,F.type_list_pop⟩
 ·exact⟨F.plainAttrs_list,F.slot_list_reverse,F.type_list_reverse⟩
theorem mG{T:String}{va:Value}{name:Str}{c:fK}{pl:Sem Bool}{Q:Value×List Value→ag→Prop}(h:(qE T name).map .meth=some c)(hT:s.TypeIs va T)(ho: ∀b,va= .ref b→∃o,s.heap.get? b=some o∧o.dict=none)(R:R B W hp s)
  (hQ: ∀f first s',dP s s'→Internal.R B W hp s'→ji B W s' c va f first→Q (f,first) s'):ar (model B.prog B.w) A (getMethod va name pl) Q E s:=by
 refine kP h fun id hid e=> ?_
 refine(wP hid).elim fun p zz=>zz.elim fun sl ty=> ?_
 exact getMethod_builtin hT p sl ty ho (hQ _ _ _ ⟨fun M M e=>e,rfl,rfl⟩ R (e▸⟨rfl,rfl⟩))
theorem gi{v:V}{va:Value}{name:Str}{c:fK}{pl:Sem Bool}{Q:Value×List Value→ag→Prop}(G':GlbA B G)(h:hZ G v name hp=some c)(R:R B W hp s)(r:a7 W va v)
  (hQ: ∀f first s',dP s s'→Internal.R B W hp s'→ji B W s' c va f first→Q (f,first) s'):ar (model B.prog B.w) A (getMethod va name pl) Q E s:=by
 have same:dP s s:=⟨fun M M e=>e,rfl,rfl⟩
 cases v with
 |own n=>
  refine jD h fun o q h=> ?_
  refine R.own (C:=fun va=>a7 W va (.own n)→(∀f first s',dP s s'→Internal.R B W hp s'→ji B W s' c va f first→Q (f,first) s')→ar (model B.prog B.w) A (getMethod va name pl) Q E s) r q (fun a hn ro r hQ=> ?_) r hQ
  cases o with
  |inst C lk=>
   refine jD h fun l hl h=> ?_
   cases e:l.lookup name with
   |some u=>rw[e]at h;cases h
   |none=>
    rw[e]at h
    refine kP h fun f hf e2=> ?_
    refine w6 R ro hl fun mA I Io rm=> ?_
    cases G'.meth C name f hf with
    |mk mN of y c hmf hfo hfc hft hB=>cases c with
     |mk nm q N bs sn sub ab col dd k0 k1 k2 k3 k5 newId hC hN hCt hNt ga gh sa=>
      exact method_ofFk (g:=s.gens) (d:=s.drawn) (t:=s.toks) (os:=s.os) (R.old hC hCt) (R.oldNs hN hNt) ga gh hmf (R.old hfo hft) hfc hB I (jl.no rm e) (hQ _ _ _ same R (e2▸⟨rfl,.one r⟩))
  |fn tag cs lk=>
   refine jD h fun l hl h=> ?_
   refine jD h fun f hu h2=> ?_
   cases hf:G.free name<;>rw[hf]at h2
   ·cases h2
   ·cases hh:uK f<;>rw[hh]at h2
    ·cases h2
    ·cases ro with
     |mk fc fd od sl _ _ _ _ ho hr=>cases lk with
      |none=>cases hl;cases hu
      |some k=>
       obtain⟨x,e,hk⟩:=hr
       cases (oo R hk hl).2 with
       |mk m hns _ rm=>
        refine(jl.yes rm hu).elim fun w zz=>zz.elim fun hw rw_=> ?_
        exact qV (g:=s.gens) (d:=s.drawn) (t:=s.toks) (os:=s.os) (e▸ho) hns hw ⟨G'.free _ hf⟩ (nn hh rw_) fun t=>hQ _ _ _ (.toks s t) R.toks (af h2▸⟨rw_,.nil⟩)
  |list t l=>cases ro with |mk i m hl _ _=>exact mG h ⟨_,hl,rfl⟩ (fun b e=>Value.ref.inj e▸⟨_,hl,rfl⟩) R hQ
  |_=>cases h
 |str x=>exact mG h (eJ.elim r fun t M=>typeIs_str _ _ _) (fun b e=>eJ.elim (C:=fun v=>v= .ref b→_) r (fun M M=>nofun) e) R hQ
 |int x=>exact mG h (dT.elim r fun t=>typeIs_int _ _ _) (fun b e=>dT.elim (C:=fun v=>v= .ref b→_) r (fun M=>nofun) e) R hQ
 |val c=>
  cases (show va=c from r)
  refine jD h fun a ha h2=> ?_
  cases va with
  |ref a'=>
   cases ha
   cases hn:name==ae "search"<;>rw[hn]at h2
   ·cases h2
   ·refine kP h2 fun ok hp e=> ?_
    refine(G'.pat a ok hp).elim fun M zz=>zz.elim fun code zz=>zz.elim fun M zz=>zz.elim fun hP hs=> ?_
    refine((hP _ _ _ R).get).elim fun fs zz=>zz.elim fun tp zz=>zz.elim fun items zz=>zz.elim fun n zz=>zz.elim fun t1 zz=>zz.elim fun t2 zz=>zz.elim fun ho M=> ?_
    exact eq_of_beq hn▸getMethod_builtin ⟨_,ho,rfl⟩ la gV ky (fun b e=>Value.ref.inj e▸⟨_,ho,rfl⟩) (hQ _ _ _ same R (e▸⟨rfl,rfl,a,code,rfl,hP,hs⟩))
  |_=>cases ha
 |_=>cases h
end
def PJ(A:bv)(fs:List aB):Prop:=∃l,A.frames=some l∧∀e∈l,e.scope.kind≠ .module∧∃L,e.frame=some L∧L∈fs
structure jg(A:bv)(n:Nat)(fs:List aB):Prop where
 handled:A.handled=none
 depth:A.depth+4*n+20<recursionLimit
 units:A.units+40*n+200<cLine
 stk:PJ A fs
structure ow(B:bW)(Γ:Cx)(W:Wd)(env:Env):Prop where
 names:env.scope.names=Γ.names
 kind:env.scope.kind= .function
 glob:env.globals=bb
 bui:env.builtins=cC
 cells:jh W env.cells Γ.cells
 fr:W.own[Γ.fr]? =some env.locals
 ncd:Γ.names.lookup (ae "__classdict__")=none
 code:Γ.mks=true→∃c P,env.code= .ref c∧(c,P)∈B.ct
structure iy(B:bW):Prop where
 inj: ∀c c' P,(c,P)∈B.ct→(c',P)∈B.ct→c=c'
 lim: ∃mc,B.h0.Ns cStatics mc∧mc "sys.recursionlimit"=none∧cStatics ∉ B.tabs
 bui: ∃mg,B.h0.Ns bb mg∧bb ∉ B.tabs∧∃bm ob,mg "__builtins__"=some (.ref bm)∧bm ∉ B.tabs∧B.h0.get? bm=some ob∧∀P∈B.tabs,B.h0.BuiltinsAt mg P
structure GlbOk(B:bW)(G:fS):Prop extends GlbA B G where
 base:iy B
 code: ∀t,G.code t=B.code t
 glob: ∀x v,G.glob x=some v→∀{A:bv} {env:Env} {W:Wd} {hp:Hp} {s:ag} {Q:Value→ag→Prop} {E:Value→ag→Prop},env.globals=bb→env.builtins=cC→R B W hp s→
  (∀va,a7 W va v→Q va s)→ar (model B.prog B.w) A (loadGlobal env x) Q E s
structure cj(B:bW)(n:Nat)(Γ:Cx)(A:bv)(W:Wd)(env:Env)(hp:Hp)(s:ag):Prop where
 room:jg A n W.frs
 relE:ow B Γ W env
 relH:R B W hp s
def jA(A:bv)(env:Env):Prop:=∃l,A.frames=some (env::l)∧∃L,env.frame=some L
def kx(B:bW)(W:Wd)(s:ag)(K:Hp→Prop)(Q:Unit→ag→Prop):Prop:=∀W' hp' s',K hp'→Le B W s W' s'→R B W' hp' s'→Q () s'
section
variable{B:bW}{G:fS}{n:Nat}{Γ:Cx}{A:bv}{W W':Wd}{env:Env}{hp hp':Hp}{s s':ag}{E:Value→ag→Prop}
theorem jg.less{n m:Nat}{fs:List aB}(h:jg A n fs)(hm:m≤n):jg A m fs:=⟨h.handled,aj (aT (bH (bj 4 hm) _) 20) h.depth,aj (aT (bH (bj 40 hm) _) 200) h.units,h.stk⟩
theorem jg.fr{n:Nat}{fs fs':List aB}(h:jg A n fs)(e:fs'=fs):jg A n fs':=e▸h
theorem ow.tr(x:Tr W W')(h:ow B Γ W env):ow B Γ W' env:=⟨h.names,h.kind,h.glob,h.bui,h.cells.tr x,x.own _ _ h.fr,h.ncd,h.code⟩
theorem cj.le(Y:cj B n Γ A W env hp s)(x:Le B W s W' s')(r:R B W' hp' s'):cj B n Γ A W' env hp' s':=⟨Y.room.fr x.frs,Y.relE.tr x.toTr,r⟩
theorem kx.after{W1:Wd}{s1:ag}{K:Hp→Prop}{Q:Unit→ag→Prop}(P:kx B W s K Q)(x:Le B W s W1 s1):kx B W1 s1 K Q:=fun W' hp' s' k y r=>P W' hp' s' k (x.trans y) r
theorem gu{x:Str}(hk:env.scope.kind= .function)(h:env.kindOf x=some .globalImplicit∨env.kindOf x=some .globalExplicit):loadName env x=loadGlobal env x:=by
 have h1:env.scope.kind.isAnnotationScope=false:=by rw[hk];rfl
 have h2:env.blockKind= .function:=by unfold Env.blockKind;rw[h1,hk];rfl
 unfold loadName
 rw[h1,h2]
 rcases h with h|h<;>rw[h]<;>rfl
theorem ow.name(h:ow B Γ W env){x:Str}{k:NameKind}(e:Γ.names.lookup x=some k):env.kindOf x=some k:=by show env.scope.names.lookup x=_;rw[h.names];exact e
def Ov(v u:V):Prop:=u=v∧u≠ .unb
theorem PG{u v:V}(h:some u=some v)(e:aS u.ctorIdx 11=false):Ov v u:=⟨af h,fun q=>bh (e.symm.trans (congrArg (fun u=>aS (V.ctorIdx u) 11) q))⟩
theorem tK{u v:V}(h:vg u=some v):Ov v u:=by
 induction u using V.casesOn with
 |unb=>injection h
 |_=>exact PG h rfl
theorem rG.bound{va:Option Value}{u v:V}(r:rG W va u)(h:vg u=some v): ∃w,va=some w∧a7 W w v:=(tK h).1▸r.elim (fun e=>absurd e (tK h).2) id
theorem oS{x:Str}{v:V}{Q:Value→ag→Prop}(g:GlbOk B G)(h:lg G Γ hp x=some v)(YE:ow B Γ W env)(Y:R B W hp s)(hQ: ∀va,a7 W va v→Q va s):ar (model B.prog B.w) A (loadName env x) Q E s:=by
 refine jD h fun k e h=> ?_
 have e':=YE.name e
 have cell: ∀{n:Nat},(hp[n]?.bind Ja)=some v→∀{a},W.own[n]? =some a→∃w,s.heap.get? a=some {cls:= .type "cell",data:= .cell (some w)}∧a7 W w v:=fun{n} h {a} ha=>by
  refine jD h fun o q h=> ?_
  have r:=Y.objs n a o ha q
  induction o using AO.casesOn with
  |cell u=>
   cases r with |mk cv ho r=>exact(r.bound h).elim fun w z=>⟨w,z.1▸ho,z.2⟩
  |_=>injection h
 cases k with
 |«local»=>
  refine jD h fun o q h=> ?_
  have r:=Y.objs _ _ o YE.fr q
  induction o using AO.casesOn with
  |loc l=>
   obtain⟨m,hns,rm⟩:=r
   refine jD h fun u hu hb=> ?_
   obtain⟨w,e1,e2⟩:=(rm x u hu).bound hb
   exact wpAny_loadName_local YE.kind e' hns e1 (hQ w e2)
  |_=>injection h
 |cell=>
  obtain⟨n,hc,h⟩:=Option.bind_eq_some_iff.mp h
  obtain⟨a,ha,hr⟩:=YE.cells.lookup hc
  obtain⟨w,e1,e2⟩:=cell h hr
  exact wpAny_loadName_cell YE.kind e' ha ⟨_,e1,rfl⟩ (hQ w e2)
 |free=>
  obtain⟨n,hc,h⟩:=Option.bind_eq_some_iff.mp h
  obtain⟨a,ha,hr⟩:=YE.cells.lookup hc
  obtain⟨w,e1,e2⟩:=cell h hr
  exact wpAny_loadName_free YE.kind e' ha ⟨_,e1,rfl⟩ (hQ w e2) (beq_eq_false_iff_ne.mpr fun z=>nomatch(z▸e).symm.trans YE.ncd)
 |globalImplicit=>exact gu YE.kind (.inl e')▸g.glob x v h YE.glob YE.bui Y hQ
 |globalExplicit=>exact gu YE.kind (.inr e')▸g.glob x v h YE.glob YE.bui Y hQ
theorem ng{f:List (Str×V)→Prop}{o:Option AO}(h:Ko f o){C:Prop}(k: ∀l,o=some (.loc l)→f l→C):C:=by
 induction o using aw with
 |none=>exact h.elim
 |some o=>induction o using AO.casesOn with
  |loc l=>exact k l rfl h
  |_=>exact h.elim
theorem xw{f:Prop}{o:Option AO}(h:Jb f o){C:Prop}(k: ∀v,o=some (.cell v)→f→C):C:=by
 induction o using aw with
 |none=>exact h.elim
 |some o=>induction o using AO.casesOn with
  |cell l=>exact k l rfl h
  |_=>exact h.elim
theorem kx.write{m:Nat}{a:aB}{o o':AO}{K:Hp→Prop}{Q:Unit→ag→Prop}(P:kx B W s K Q)(r:R B W hp s)(x:tP a s s')(hO:kM B s'.heap W a o')(hn:W.own[m]? =some a)(e:hp[m]? =some o)(hd:o≠ .dead)(hl: ∀l,o= .loc l→∃l,o'= .loc l)(k:K (hp.set m o')):Q () s':=
 P W _ s' k (x.le (.inl (c8 hn))) (r.write x hn ((r.off m a hn).elim id fun d=>absurd (af (e.symm.trans d)) hd) hO fun z=>z.elim fun l z=>hl l (af (e.symm.trans z)))
theorem eW{x:Str}{v:V}{va:Value}{K:Hp→Prop}{Q:Unit→ag→Prop}(h:eM Γ x v hp K)(Y:cj B n Γ A W env hp s)(r:a7 W va v)(P:kx B W s K Q):ar (model B.prog B.w) A (storeName env x va) Q E s:=by
 refine bO h fun k e h=> ?_
 have e':=Y.relE.name e
 cases k with
 |«local»=>
  exact ng h fun l q h=>by
   obtain⟨m,hns,rm⟩:jH s.heap W env.locals l:=Y.relH.objs _ _ _ Y.relE.fr q
   refine wpAny_storeName_local e' hns (fun h' hn' hs'=> ?_) (by rw[Y.relE.kind];rfl)
   refine P.write (o':= .loc (m4 x v l)) Y.relH (SameBut.but hs' (hn'.elim fun o n=>n.elim fun M n=>n.elim fun M n=>⟨o,n.1⟩)) (jH.mk _ hn' fun y u hy=> ?_) Y.relE.fr q nofun (fun M M=>⟨_,rfl⟩) h
   rw[jw]at hy
   rcases c:y==x with _|_<;>rw[c]at hy
   ·rw[if_neg (beq_eq_false_iff_ne.mp c)];exact rm y u hy
   ·rw[if_pos (eq_of_beq c)];exact af hy▸ .inr ⟨va,rfl,r⟩
 |cell=>
  exact bO h fun m hc h=>xw h fun u q h=>by
   obtain⟨a,ha,hr⟩:=Y.relE.cells.lookup hc
   obtain⟨cv,ho,ru⟩:A8 s.heap a (rG W · u):=Y.relH.objs m a _ hr q
   rw[show storeName env x va=(cellOf env x>>=fun c=>cellSet c (some va)) by unfold storeName;rw[e',Y.relE.kind];rfl]
   refine aa (wpAny_cellOf ha ?_)
   unfold cellSet
   refine aa (wpAny_load ho (wpAny_update ho ?_))
   have g:=dq.get?_update_self (h:=s.heap) (a:=a) (fun o=>{o with data:= .cell (some va)}) ho rfl
   exact P.write (o':= .cell v) Y.relH (SameBut.but (t:=s.toks) (dq.SameBut.update s.heap a fun o=>{o with data:= .cell (some va)}) ⟨_,g⟩) (A8.mk _ g (.inr ⟨va,rfl,r⟩)) hr q nofun nofun h
 |_=>exact h.elim
theorem v3{x:Str}{v:V}{K:Hp→Prop}(h:eM Γ x v hp K): ∃hp',K hp':=bO h fun k M h=>by
 cases k with
 |«local»=>exact ng h fun M M h=>⟨_,h⟩
 |cell=>exact bO h fun M M h=>xw h fun M M h=>⟨_,h⟩
 |_=>exact h.elim
def QG(x:Str)(e:Expr):Prop:=∃p,e= .Name x p
theorem OV{α:Type}{x:α}{p:Prop}(h:none=some x):p:=nomatch h
theorem nW{e:Expr}{x:Str}(h:ut e=some x):QG x e:=by
 induction e using bC with
 |Name y p=>exact⟨p,congrArg (Expr.Name · p) (af h)⟩
 |_=>exact OV h
theorem vZ{ts:List Expr}: ∀{v:V} {hp:Hp} {K:Hp→Prop} {vs:List Value},jY Γ ts v hp K→fJ W vs v→(dG ts env).length=vs.length∧(dG ts env).findIdx? (·.1)=none:=by
 induction ts with
 |nil=>
  intro v hp K vs h r
  refine qe (C:=fun v=>fJ W vs v→(dG [] env).length=vs.length∧(dG [] env).findIdx? (·.1)=none) h (fun M r=> ?_) r
  subst r
  exact⟨rfl,rfl⟩
 |cons t ts ih=>
  intro v hp K vs h r
  refine bO h fun x hx h1=> ?_
  refine jX (C:=fun v=>fJ W vs v→(dG (t::ts) env).length=vs.length∧(dG (t::ts) env).findIdx? (·.1)=none) h1 (fun a b h2 r=> ?_) r
  refine fM.elim (C:=fun vs=>(dG (t::ts) env).length=vs.length∧(dG (t::ts) env).findIdx? (·.1)=none) r fun w l M q=> ?_
  obtain⟨p,rfl⟩:=nW hx
  refine(v3 h2).elim fun hp' h3=> ?_
  have z:=ih h3 q
  rw[show dG (.Name x p::ts) env=(false,assign (.Name x p) env)::dG ts env from rfl]
  refine⟨congrArg (· +1) z.1,?_⟩
  rw[List.findIdx?_cons,z.2]
  rfl
theorem rQ{ts:List Expr}: ∀{v:V} {vs:List Value} {W:Wd} {hp:Hp} {s:ag} {K:Hp→Prop} {Q:Unit→ag→Prop},jY Γ ts v hp K→cj B n Γ A W env hp s→fJ W vs v→kx B W s K Q→
  ar (model B.prog B.w) A (assignInOrder ((dG ts env).map (·.2)) vs) Q E s:=by
 induction ts with
 |nil=>
  intro v vs W hp s K Q h Y r P
  refine qe (C:=fun v=>fJ W vs v→ar (model B.prog B.w) A (assignInOrder ((dG [] env).map (·.2)) vs) Q E s) h (fun h r=> ?_) r
  subst r
  exact ao (P _ _ _ h (.refl ..) Y.relH)
 |cons t ts ih=>
  intro v vs W hp s K Q h Y r P
  refine bO h fun x hx h1=> ?_
  refine jX (C:=fun v=>fJ W vs v→ar (model B.prog B.w) A (assignInOrder ((dG (t::ts) env).map (·.2)) vs) Q E s) h1 (fun a b h2 r=> ?_) r
  refine fM.elim (C:=fun vs=>ar (model B.prog B.w) A (assignInOrder ((dG (t::ts) env).map (·.2)) vs) Q E s) r fun w l q1 q2=> ?_
  obtain⟨p,rfl⟩:=nW hx
  show ar _ _ (do holding l (assign (.Name x p) env w);assignInOrder ((dG ts env).map (·.2)) l) _ _ _
  exact aa (aU (wpAny_assign_Name (eW h2 Y q1 fun W1 hp1 s1 h3 x1 r1=>ih h3 (Y.le x1 r1) ((V2.mono x1.toTr b).2 q2) (P.after x1))))
theorem oB{ts:List Expr}{v:V}{va:Value}{K:Hp→Prop}(h:jY Γ ts v hp K)(Y:R B W hp s)(r:a7 W va v): ∃a its m,va= .ref a∧IsT s.heap a its m∧its.size≤bS∧fJ W its.toList v:=by
 induction ts using aO with
 |nil=>exact qe (C:=fun v=>a7 W va v→∃a its m,va= .ref a∧IsT s.heap a its m∧its.size≤bS∧fJ W its.toList v) h (fun M r=>eD.elim (C:=fun va=>∃a its m,va=Value.ref a∧IsT s.heap a its m∧its.size≤bS∧fJ W its.toList .t0) (show eD "tuple" W.F _ va from r) fun a i m ho z q=>⟨a,i,m,rfl,Y.sub _ _ ho,z,q⟩) r
 |cons t ts=>exact bO h fun x M h=>jX (C:=fun v=>a7 W va v→∃a its m,va= .ref a∧IsT s.heap a its m∧its.size≤bS∧fJ W its.toList v) h (fun a b M r=>Y.tup (C:=fun va=>∃x its m,va= .ref x∧IsT s.heap x its m∧its.size≤bS∧fJ W its.toList (.tc a b)) r fun x its m h z q=>⟨x,its,m,rfl,h,z,q⟩) r
theorem qT{h':dq}{t:Nat}(he: ∀b o,b≠s.heap.objs.size→s.heap.get? b=some o→h'.get? b=some o):dP s {s with heap:=h',toks:=t}:=⟨fun b o e=>he b o (cR (dK e)) e,rfl,rfl⟩
theorem gc{t:Expr}{v:V}{va:Value}{K:Hp→Prop}{Q:Unit→ag→Prop}(h:iK Γ t v hp K)(Y:cj B n Γ A W env hp s)(r:a7 W va v)(P:kx B W s K Q):ar (model B.prog B.w) A (assign t env va) Q E s:=by
 induction t using PySem.Expr.casesOn with
 |Name x p=>exact wpAny_assign_Name (eW h Y r P)
 |Tuple ts k p=>
  obtain⟨a,its,m,rfl,hx,_,q⟩:=oB h Y.relH r
  have z:=vZ (env:=env) h q
  refine wpAny_assign_Tuple Y.room.handled ⟨_,hx,rfl,_,rfl⟩ (by rw[z.1];rfl) z.2 fun h' he=> ?_
  have g:=qT (t:=s.toks) he
  exact rQ h (Y.le g.le (Y.relH.grow g)) q (P.after g.le)
 |_=>exact h.elim
end
section
variable{B:bW}{G:fS}{n:Nat}{Γ:Cx}{A:bv}{W W':Wd}{env:Env}{hp hp':Hp}{s s':ag}{E:Value→ag→Prop}
theorem tQ{m:Str→Option Value}{l:List (Str×V)}(r: ∀x,jl W (m x) (l.lookup x)):Within m (l.map (·.1)):=fun y hy=>by
 induction e:l.lookup y using aw with
 |none=>exact absurd (jl.no r e) hy
 |some u=>exact aP.mpr ⟨_,fG e,rfl⟩
theorem Dj{m:Str→Option Value}{l:List (Str×V)}{x:Str}{u:V}{ua:Value}(r: ∀x,jl W (m x) (l.lookup x))(ru:a7 W ua u)(y:Str):jl W (if y=x then some ua else m y) ((m4 x u l).lookup y):=by
 rw[jw]
 cases c:y==x
 ·rw[if_neg (beq_eq_false_iff_ne.mp c)];exact r y
 ·rw[if_pos (eq_of_beq c)];exact⟨ua,rfl,ru⟩
theorem fq{α:Type}{b:Bool}{o:Option α}{x:α}(h:cond b o none=some x):b=true∧o=some x:=by cases b with |true=>exact⟨rfl,h⟩|false=>injection h
theorem R.offAt(r:R B W hp s){m:Nat}{a:aB}{o:AO}(hn:W.own[m]? =some a)(e:hp[m]? =some o)(hd:o≠ .dead):W.F a=none:=(r.off m a hn).elim id fun d=>absurd (af (e.symm.trans d)) hd
theorem GF{v:V}{m:Nat}(h:MM v=some m):v= .own m:=by
 induction v using V.casesOn with
 |own n=>exact congrArg V.own (af h)
 |_=>exact OV h
theorem Kg{p o:Obj}(h1:p.cls=o.cls)(h2:p.data=o.data)(h3:p.slots=o.slots)(h4:p.dict=o.dict):p=o:=by
 show Obj.mk p.cls p.dict p.data p.slots=Obj.mk o.cls o.dict o.data o.slots
 rw[h1,h2,h3,h4]
theorem kY{v u:V}{va ua:Value}{name:Str}{hp1:Hp}{Q:Unit→ag→Prop}(g:GlbA B G)(h:kZ G v name u hp=some hp1)(Y:R B W hp s)(r:a7 W va v)(ru:a7 W ua u)
  (P:kx B W s (· =hp1) Q):ar (model B.prog B.w) A (setAttr va name ua) Q E s:=by
 refine jD h fun m hv h=> ?_
 refine jD h fun o q h=> ?_
 obtain rfl:=GF hv
 refine R.own Y r q fun a hn ro=> ?_
 cases o with
 |inst C k=>
  obtain⟨hdat,h⟩:=fq h
  refine jD h fun l hl h=> ?_
  obtain⟨hz,h⟩:=fq h
  obtain⟨o,d,h0,h1,h2,hd,hk⟩:A5 s.heap W a C k:=ro
  obtain⟨qk,m',hns,hx,rm⟩:=oo Y hk hl
  have hda:d≠a:=fun z=>by
   refine hx.elim fun od zz=>zz.elim fun e3 zz=>zz.elim fun e4 M=> ?_
   exact nomatch(h1.symm.trans (af (h0.symm.trans (z▸e3))▸e4):Value.ref C= .type "dict")
  have I:s.heap.InstFk a C m':=⟨o,h0,h1,h2,.inr ⟨d,hd,hda,hns,hx⟩⟩
  have hF:=Y.offAt hn q nofun
  cases g.dat C name hdat with
  |mk mN c hna hB=>cases c with
   |mk nm q1 N bs sn sub ab col dd k0 k1 k2 k3 k5 newId hC hN hCt hNt ga gh sa=>
    have haC:a≠C:=fun z=>nomatch(Y.base C _ hC hCt).symm.trans ((congrArg W.F z.symm).trans hF)
    refine store_attrFk (g:=s.gens) (d:=s.drawn) (t:=s.toks) (os:=s.os) (ns:=l.map (·.1)) F.store_object (Y.old hC hCt) (Y.oldNs hN hNt) sa hna hB haC I (fun h' tk' I' hk2 hsame=> ?_) (tQ rm)
     (by have:=aq hz;rw[aE,sizeLine_eq];lia)
    obtain⟨o₁,f1,f2,f3,f4,f5⟩:=hsame o h0
    obtain⟨o',i1,i2,i3,i4⟩:=I'
    obtain rfl:=af (f1.symm.trans i1)
    have fd:=f5 d hd
    rcases i4 with⟨i4,_⟩|⟨d2,i5,i6,i7,i8⟩
    ·exact nomatch fd.symm.trans i4
    obtain rfl:=af (fd.symm.trans i5)
    obtain rfl:=Kg f2 f3 f4 (fd.trans hd.symm)
    have x:tP d s ⟨h',s.gens,s.drawn,tk',s.os⟩:=⟨fun b ob hb eb=>by
     by_cases hba:b=a
     ·subst hba
      obtain rfl:=af (eb.symm.trans h0)
      exact f1
     ·exact hk2 b ob hba (fun o₀ dx e1 e2=>by obtain rfl:=af (e1.symm.trans h0);obtain rfl:=af (e2.symm.trans hd);exact hb) eb,i8.elim fun od e=>⟨od,e.1⟩,rfl,rfl⟩
    exact P.write (o':= .attrs (m4 name u l)) Y x (rI.mk _ i7 i8 (Dj rm ru)) hk qk nofun nofun (af h)
 |fn tag cs lk=>
  refine(fq h).elim fun hfree h=> ?_
  refine(fq h).elim fun hn0 h=> ?_
  cases lk with
  |some k=>injection hn0
  |none=>
  obtain⟨fc,fd,od,sl,hf,ok,code,cl,ho,hr⟩:L6 B s.heap W a tag cs none:=ro
  have hr:od=none:=hr
  subst hr
  refine su (g:=s.gens) (d:=s.drawn) (t:=s.toks) (os:=s.os) ho ⟨g.free _ hfree⟩ fun h' tk' g1 g2 g3 g4=> ?_
  obtain⟨oa,ea,esp⟩:=g3
  have hf0:=cc (av s.heap.objs.size)
  have e1:(s.heap.push oa).get? s.heap.objs.size=some oa:=aF _ (dq.get?_some_iff.mp ea).2
  have G1:dP s {s with heap:=s.heap.push oa}:=⟨fun M M=>aD _,rfl,rfl⟩
  have R1:=Y.add (o':= .attrs [(name,u)]) G1 hf0 (rI.mk _ (tf (e1.trans ea.symm) g2) ⟨oa,e1,esp⟩ fun y=>by
   rw[cz]
   cases c:y==name
   ·show(if y=name then some ua else none)=none
    rw[if_neg (beq_eq_false_iff_ne.mp c)]
   ·rw[if_pos (eq_of_beq c)];exact⟨ua,rfl,ru.tr .add⟩)
  have x:tP a {s with heap:=s.heap.push oa} ⟨h',s.gens,s.drawn,tk',s.os⟩:=⟨fun b ob hb eb=>by
   rcases dq.get?_push_cases eb with⟨rfl,rfl⟩|eb
   ·exact ea
   ·exact g4 b ob hb eb,⟨_,g1⟩,rfl,rfl⟩
  have hn':(W.add s.heap.objs.size).own[m]? =some a:=Tr.add.own _ _ hn
  have hlt:m<hp.length:=(au.mp q).1
  have R2:=R1.write x hn' (show W.F a=none from Y.offAt hn q nofun) (o':= .fn tag cs (some hp.length)) (L6.mk fc fd _ sl hf ok code (cl.tr .add) g1 ⟨_,rfl,Y.addAt⟩) fun z=>z.elim fun l z=>by
   rw[ba hlt,q]at z
   exact nomatch z
  rw[List.set_append_left _ _ hlt]at R2
  exact P _ _ _ rfl ((G1.leAdd hf0).trans (x.le (.inl (c8 hn')))) ((af h)▸R2)
 |_=>injection h
theorem rR{l:aB}{items:Array Value}{m:Nat}{k:Int}{t:Tok}{v:Value}{Q:Unit→ag→Prop}(hl0:IsL s.heap l items m)
  (h0:0≤k) (hfit:k<2^63) (hn:k<items.size)
  (hQ:Q () {s with heap:=s.heap.update l (Obj.mapSeq (·.setIfInBounds k.toNat v))}):
  ar (model B.prog B.w) A (setItem (.ref l) (.int k t) v) Q E s:=by
 have hl:s.heap.IsList l items:=⟨_,hl0,rfl,m,rfl⟩
 unfold setItem
 try with_reducible refine aU ?_
 first|refine aa (ao ?_)|skip
 refine aa (wpAny_sequenceKey hl.typeIs (by decide) ?_)
 refine aa (wpAny_callSpecial?_slot (name:=ae "__setitem__") hl.typeIs slot_list_setitem
  (wpAny_call_entry slot_list_setitem hl.typeIs entry_list_setitem ?_ (args_list_setitem _ _ _)))
 show ar _ _ (Builtin.List.listSubscript? (.int k t)>>=_) _ _ s
 refine aa (wpAny_listSubscript_int (fitsIndex_of h0 hfit) ?_)
 clear hfit
 obtain⟨j,rfl⟩:=cW h0
 have hj:j<items.size:=by omega
 have hx':items[j]? =some items[j]:=Array.getElem?_eq_getElem hj
 refine aa (aa (wpAny_seqItemAt hl0 rfl (ao ?_)))
 rw[hx']
 show ar _ _ (setSeqItemAt l j v>>=_) _ _ s
 refine aa (wpAny_setSeqItemAt hl0 rfl ?_)
 first
  |exact aa (ao (ao ⟨.none,rfl,ao hQ⟩))
  |exact ao ⟨.none,rfl,ao hQ⟩
theorem bI.set{α β:Type}{R:α→β→Prop}{vs:List α}{us:List β}{w:α}{x:β}(h:R w x)(r:bI R vs us): ∀k,bI R (vs.set k w) (us.set k x):=by
 induction r with
 |nil=>exact fun k=> .nil
 |cons a b ih=>intro k;cases k;exact .cons h b;exact .cons a (ih _)
theorem kx.list{m:Nat}{a:aB}{ty:Ty}{l l':List (den ty)}{items':Array Value}{k:Nat}{h':dq}{t:Nat}{K:Hp→Prop}{Q:Unit→ag→Prop}(P:kx B W s K Q)(Y:R B W hp s)(hn:W.own[m]? =some a)(e:hp[m]? =some (.list ty l))(hs:dq.SameBut a s.heap h')(hl:IsL h' a items' k)
  (hz:l'.length≤bS) (rs:bI (ff W.F ty) items'.toList l') (hK:K (hp.set m (.list ty l'))):Q () {s with heap:=h',toks:=t}:=
 P.write (o':= .list ty l') Y (SameBut.but hs ⟨_,hl⟩) (lZ.mk items' k hl (by rw[←aN,rs.length];exact hz) rs) hn e nofun nofun hK
theorem qr{v i u:V}{va ia ua:Value}{K:Hp→Prop}{Q:Unit→ag→Prop}(h:wf v i u hp K)(Y:R B W hp s)(r:a7 W va v)(ri:a7 W ia i)(ru:a7 W ua u)(P:kx B W s K Q):ar (model B.prog B.w) A (setItem va ia ua) Q E s:=by
 refine Ae (C:=fun v=>a7 W va v→ar (model B.prog B.w) A (setItem va ia ua) Q E s) h (fun m h r=> ?_) r
 refine dA (C:=fun i=>a7 W ia i→ar (model B.prog B.w) A (setItem va ia ua) Q E s) h (fun k h ri=>dT.elim ri fun t=> ?_) ri
 induction q:hp[m]? using aw with
 |none=>rw[q]at h;exact h.elim
 |some o=>
  rw[q]at h
  refine R.own Y r q fun a hn ro=> ?_
  induction o using AO.casesOn with
  |list ty l=>
   exact zM h ru fun d h rd=>by
    obtain⟨items,z,hl,hz,rs⟩:lZ s.heap a (bI (ff W.F ty) · l):=ro
    have e1:=rs.length
    rw[aN]at e1
    have hk:=h.1
    refine rR hl hk.1 (by unfold bS at hz;omega) (by omega) ?_
    exact P.list (t:=s.toks) (l':=l.set k.toNat d) Y hn q (dq.SameBut.update ..) (IsL.update hl _) (by rw[List.length_set,←e1];exact hz) (by rw[Array.toList_setIfInBounds];exact rs.set rd _) h.2
  |_=>exact h.elim
theorem rn{op:Operator}{a b:V}{va vb:Value}{K:V→Hp→Prop}{Q:Value→ag→Prop}(h:H6 op a b fun v=>K v hp)(Y:R B W hp s)(ra:a7 W va a)(rb:a7 W vb b)(P:dH B W s K Q):ar (model B.prog B.w) A (inplaceOp op va vb) Q E s:=by
 induction a using V.casesOn with
 |int a=>exact dA (C:=fun b=>a7 W vb b→_) h (fun b h rb=>dT.elim ra fun t=>dT.elim rb fun u=>by
   induction op using PySem.Operator.casesOn with
   |Add=>exact PyProof.Rows.iadd_int (P.toks Y h (.mk _))
   |Sub=>exact PySem.P.isub_int (P.toks Y h (.mk _))
   |Mult=>exact PySem.AutoIntOps.imul_0 (P.toks Y h.2 (.mk _)) (IJ h.1.1 h.1.2)
   |FloorDiv=>exact PySem.AutoIntOps.ifloordiv_1 (by simpa using h.1.1) (by rw[PyProof.noPylong_small h.1.2.2];simp) (P.toks Y h.2 (.mk _))
   |_=>exact h.elim) rb
 |str a=>exact fj (C:=fun b=>a7 W vb b→_) h (fun b h rb=>eJ.elim ra fun t M=>eJ.elim rb fun u M=>zy h fun h=>PySem.P.iadd_str (nC h.1 h.2 Y P)) rb
 |_=>exact h.elim
end
structure eG where
 a:aB→Prop
 g:Nat→Prop
noncomputable def eG.one(a:aB):eG:=⟨(· =a),fun M=>False⟩
noncomputable def eG.or(X Z:eG):eG:=⟨fun a=>X.a a∨Z.a a,fun g=>X.g g∨Z.g g⟩
structure eG.Le(X Z:eG):Prop where
 a: ∀k,X.a k→Z.a k
 g: ∀k,X.g k→Z.g k
structure eG.Off(X:eG)(s:ag):Prop where
 a: ∀k,X.a k→s.heap.get? k=none
 g: ∀k,X.g k→s.gens.size≤k
structure ml(B:bW)(X:eG)(W:Wd)(s:ag)(W':Wd)(s':ag):Prop extends Tr W W' where
 frs:W'.frs=W.frs
 newO: ∀a∈W'.own,a∈W.own∨s.heap.get? a=none∨X.a a
 newF: ∀a o,W'.F a=some o→W.F a=some o∨s.heap.get? a=none∨X.a a
 keep: ∀a o,s.heap.get? a=some o→a ∉ W.own→a ∉ B.tabs→a ∉ W.frs→¬X.a a→s'.heap.get? a=some o
 frk: ∀L∈W.frs,L ∉ W.own→¬X.a L→xG s.heap s'.heap L
 live: ∀a,¬X.a a→s'.heap.get? a=none→s.heap.get? a=none
 gens: ∀(g:Nat) x,s.gens[g]? =some x→¬X.g g→s'.gens[g]? =some x
section
variable{B:bW}{W W' W1 W2 W0:Wd}{hp hp':Hp}{s s' s0 s1 s2:ag}{X Z:eG}{a:aB}
theorem eG.Off.or(x:X.Off s)(z:Z.Off s):(X.or Z).Off s:=⟨fun k h=>h.elim (x.a k) (z.a k),fun k h=>h.elim (x.g k) (z.g k)⟩
theorem eG.off(h:s.heap.get? a=none):(eG.one a).Off s:=⟨fun k (e:k=a)=>e▸h,nofun⟩
theorem eG.Le.refl(X:eG):X.Le X:=⟨fun M h=>h,fun M h=>h⟩
theorem eG.Le.l:X.Le (X.or Z):=⟨fun M=> .inl,fun M=> .inl⟩
theorem eG.Le.r:Z.Le (X.or Z):=⟨fun M=> .inr,fun M=> .inr⟩
theorem Le.x(x:Le B W s W' s'):ml B X W s W' s':=⟨x.toTr,x.frs,fun a h=>(x.newO a h).imp id .inl,fun a o h=>(x.newF a o h).imp id .inl,fun a o e h1 h2 hf M=>x.keep a o e h1 h2 hf,fun L m h M=>x.frk L m h,fun a M=>x.live a,fun g z e M=>x.gens g z e⟩
theorem ml.refl(B:bW)(X:eG)(W:Wd)(s:ag):ml B X W s W s:=(Internal.Le.refl B W s).x
theorem ml.mono(x:ml B X W s W' s')(h:X.Le Z):ml B Z W s W' s':=
 ⟨x.toTr,x.frs,fun a m=>(x.newO a m).imp id fun q=>q.imp id (h.a a),fun a o m=>(x.newF a o m).imp id fun q=>q.imp id (h.a a),fun a o e h1 h2 hf h3=>x.keep a o e h1 h2 hf fun q=>h3 (h.a a q),fun L m h1 h3=>x.frk L m h1 fun q=>h3 (h.a L q),fun a h3=>x.live a fun q=>h3 (h.a a q),fun g z e h3=>x.gens g z e fun q=>h3 (h.g g q)⟩
theorem ml.trans(x:ml B X W s W1 s1)(y:ml B X W1 s1 W2 s2):ml B X W s W2 s2 where
 toTr:=x.toTr.trans y.toTr
 frs:=y.frs.trans x.frs
 newO a h:=(y.newO a h).elim (x.newO a) fun h=>h.elim (fun h=> .inr ((Classical.em (X.a a)).elim .inr fun n=> .inl (x.live a n h))) fun h=> .inr (.inr h)
 newF a o h:=(y.newF a o h).elim (x.newF a o) fun h=>h.elim (fun h=> .inr ((Classical.em (X.a a)).elim .inr fun n=> .inl (x.live a n h))) fun h=> .inr (.inr h)
 keep a o e h1 h2 hf h3:=y.keep a o (x.keep a o e h1 h2 hf h3) (fun h=>(x.newO a h).elim h1 fun h=>h.elim (fun h=>nomatch e.symm.trans h) h3) h2 (x.frs▸hf) h3
 frk a m h h3 o e:=by
  refine(x.frk a m h h3 o e).elim fun sl e1=> ?_
  obtain⟨sl',e2⟩:=y.frk a (x.frs.symm▸m) (fun h'=>(x.newO a h').elim h fun h'=>h'.elim (fun h'=>nomatch e.symm.trans h') h3) h3 _ e1
  exact⟨sl',e2⟩
 live a n h:=x.live a n (y.live a n h)
 gens g z e n:=y.gens g z (x.gens g z e n) n
theorem Le.transX(x:Le B W s W1 s1)(y:ml B X W1 s1 W2 s2)(h:X.Off s):Le B W s W2 s2 where
 toTr:=x.toTr.trans y.toTr
 frs:=y.frs.trans x.frs
 newO a m:=(y.newO a m).elim (x.newO a) fun q=> .inr (q.elim (x.live a) (h.a a))
 newF a o m:=(y.newF a o m).elim (x.newF a o) fun q=> .inr (q.elim (x.live a) (h.a a))
 keep a o e h1 h2 hf:=y.keep a o (x.keep a o e h1 h2 hf) (fun m=>(x.newO a m).elim h1 fun q=>nomatch e.symm.trans q) h2 (x.frs▸hf) fun hx=>nomatch e.symm.trans (h.a a hx)
 frk a m h1 o e:=by
  obtain⟨sl,e1⟩:=x.frk a m h1 o e
  obtain⟨sl',e2⟩:=y.frk a (x.frs.symm▸m) (fun h'=>(x.newO a h').elim h1 fun h'=>nomatch e.symm.trans h') (fun hx=>nomatch e.symm.trans (h.a a hx)) _ e1
  exact⟨sl',e2⟩
 live a q:=(Classical.em (X.a a)).elim (h.a a) fun n=>x.live a (y.live a n q)
 gens g z e:=y.gens g z (x.gens g z e) fun q=>absurd (Array.getElem?_eq_some_iff.mp e).1 (bY.mpr (h.g g q))
theorem tP.leX(y:tP a s s'):ml B (.one a) W s W s':=⟨.refl W,rfl,fun M h=> .inl h,fun M M h=> .inl h,fun b o e M M M h=>y.keep b o h e,fun L M M h=> .of fun o=>y.keep L o h,fun M M h=>y.live h,fun M M e M=>y.gens▸e⟩
theorem ml.priv(x:ml B X W s W' s')(p:gp B W a)(hX: ¬X.a a){o:Obj}(e:s.heap.get? a=some o):gp B W' a∧s'.heap.get? a=some o:=
 ⟨⟨fun m=>(x.newO a m).elim p.own fun z=>z.elim (fun z=>ez e z rfl) hX,by
  induction q:W'.F a using aw with
  |none=>rfl
  |some o'=>exact(x.newF a o' q).elim (fun z=>nomatch z.symm.trans p.F) fun z=>z.elim (fun z=>absurd rfl (ez e z)) fun z=>absurd z hX,p.tab,x.frs▸p.frs⟩,x.keep a o e p.own p.tab p.frs hX⟩
structure zJ(a:aB)(s s':ag):Prop where
 keep: ∀b o,b≠a→s.heap.get? b=some o→s'.heap.get? b=some o
 gens:s'.gens=s.gens
 os:s'.os=s.os
theorem R.gone(Y:R B W hp s)(p:gp B W a)(x:zJ a s s'):R B W hp s':=
 Y.step (· =a) (fun M h=>h▸⟨.inl p.F,p.tab⟩) (fun b o=>x.keep b o) x.gens x.os (fun M M e=>e) (fun M M=> .inl) Y.len Y.nodup Y.tab Y.off (fun n b o h1 h2=>have q:=Y.objs n b o h1 h2
  q.tr (.refl W) (q.alive.elim fun M e=>(x.keep b _ (fun z=>p.own (z▸c8 h1)) e).trans e.symm)) rfl Y.frF (fun L m z=>absurd (z▸m) p.frs) Y.frO
theorem zJ.leX(x:zJ a s s'):ml B (.one a) W s W s':=⟨.refl W,rfl,fun M h=> .inl h,fun M M h=> .inl h,fun b o e M M M h=>x.keep b o h e,fun L M M h=> .of fun o=>x.keep L o h,fun b n h=>by
  induction e:s.heap.get? b using aw with
  |none=>rfl
  |some o=>exact(nomatch(x.keep b o n e).symm.trans h),fun M M e M=>x.gens▸e⟩
theorem gp.less(p:gp B W a)(hF:W'.F=W.F)(hO: ∀a∈W'.own,a∈W.own)(hf:W'.frs=W.frs):gp B W' a:=⟨fun m=>p.own (hO a m),hF▸p.F,p.tab,hf▸p.frs⟩
end
structure rC(B:bW)(A:bv)(I:aB)(f:eG)(l:List V)(Ok:Hp→Prop)(W0:Wd)(At:Nat→Wd→ag→Prop):Prop where
 next: ∀{i W hp s x Q E},At i W s→Tr W0 W→R B W hp s→Ok hp→l[i]? =some x→(∀v s' W',a7 W' v x→ml B f W s W' s'→R B W' hp s'→At (i+1) W' s'→Q (some v) s')→ar (model B.prog B.w) A (pyNext (.ref I)) Q E s
 done: ∀{i W hp s Q E},At i W s→Tr W0 W→R B W hp s→Ok hp→l[i]? =none→(∀s',ml B f W s W s'→R B W hp s'→Q none s')→ar (model B.prog B.w) A (pyNext (.ref I)) Q E s
 keep: ∀{i X W hp s W' hp' s'},At i W s→R B W hp s→ml B X W s W' s'→(∀a,f.a a→¬X.a a)→(∀g,f.g g→¬X.g g)→(∀a,X.a a→∃o,s'.heap.get? a=some o)→R B W' hp' s'→At i W' s'
 less: ∀{i W W' s},At i W s→W'.F=W.F→(∀a∈W'.own,a∈W.own)→W'.frs=W.frs→At i W' s
 letGo: ∀{i W s t v Q E},At i W s→Q () s→ar (model B.prog B.w) A (letOwnedTupleGo t (.ref I) v) Q E s
 self: ∀{i W s Q E},At i W s→Q (.ref I) s→ar (model B.prog B.w) A (pyIter (.ref I)) Q E s
noncomputable def jy:List String:=["list_iterator","tuple_iterator","range_iterator","str_ascii_iterator","str_iterator","list_reverseiterator","generator","callable_iterator"]
section
variable{B:bW}{G:fS}{n:Nat}{Γ:Cx}{A:bv}{W W' W0:Wd}{env:Env}{hp hp':Hp}{s s' s0:ag}{E:Value→ag→Prop}
theorem lu{T:String}(h:jy.contains T=true):T∈jy:=cO.mp h
theorem ni{I:aB}{o:Obj}{T:String}(e:s.heap.get? I=some o)(hT:o.cls= .type T)(hm:T∈jy){t:Expr}{v:Value}{Q:Unit→ag→Prop}(h:Q () s):ar (model B.prog B.w) A (letOwnedTupleGo t (.ref I) v) Q E s:=by
 have no:(["enumerate","zip","dict_itemiterator","dict_reverseitemiterator","odict_iterator","itertools.zip_longest","itertools.pairwise"]:List String).contains T=false:=(Bool.not_eq_true' _).mp (ay.mp (show jy.all (fun T=> !(["enumerate","zip","dict_itemiterator","dict_reverseitemiterator","odict_iterator","itertools.zip_longest","itertools.pairwise"]:List String).contains T)=true by kernel_rfl) T hm)
 have go:ar (model B.prog B.w) A (do
   let(.ref r,.ref a):=((.ref I:Value),v)|return
   let o ←load r
   match o.cls,o.data with
   | .type n,.fields vs=>
    if ["enumerate","zip","dict_itemiterator","dict_reverseitemiterator","odict_iterator","itertools.zip_longest","itertools.pairwise"].contains n&&vs[0]? ==some (rawInt a)then
     rule "for.unpacks-the-owned-tuple"
     updateField r 0 .none
   |_,_=>pure ()) Q E s:=by
  induction v using Value.casesOn with
  |ref a=>
   refine aa (wpAny_load e ?_)
   rw[hT]
   generalize o.data=od
   induction od using Data.casesOn with
   |fields vs=>
    show ar _ _ (if(List.contains _ _&&_)=true then _ else _) _ _ _
    rw[no]
    exact ao h
   |_=>exact ao h
  |_=>exact ao h
 unfold letOwnedTupleGo
 induction t using bC with
 |Tuple=>exact go
 |List=>exact go
 |_=>exact ao h
theorem yt(c:Int)(n:Nat): ∀(a:Int) (i:Nat),i<n→(eR a c n)[i]? =some (a+i*c):=by
 induction n with
 |zero=>intro a i h;exact absurd h (Nat.not_lt_zero _)
 |succ n ih=>
  intro a i h
  induction i using Nat.casesOn with
  |zero=>exact congrArg some (by simp)
  |succ i=>
   show(eR (a+c) c n)[i]? =_
   rw[ih (a+c) i (dN h)]
   congr 1
   push_cast
   rw[Int.add_mul,cw];lia
theorem l6(c:Int)(n:Nat): ∀(a:Int),(eR a c n).length=n:=by
 induction n with
 |zero=>exact fun M=>rfl
 |succ n ih=>exact fun a=>congrArg (· +1) (ih _)
theorem A9{I:aB}{ax:List aB}{l:List V}{P:Nat→Value→Prop}{St:Nat→dq→Prop}(X:Walks B.prog B.w A I (I::ax) [I] l.length P St)(cls: ∀i h,St i h→∃o T,h.get? I=some o∧o.cls= .type T∧T∈jy)
  (hP: ∀i v x,P i v→l[i]? =some x→∀W,Tr W0 W→a7 W v x):
  rC B A I (.one I) l (fun M=>True) W0 fun i W s=>i≤l.length∧gp B W I∧St i s.heap∧∀b∈ax,∃ob,W.F b=some ob where
 next {i W hp s x Q E}:=fun⟨hi,pI,st,hax⟩ le Y M hx k=>X.item i _ _ _ (au.mp hx).1 st fun v h' tk hv st' hk=>by
  obtain⟨oI,_,hoI,_⟩:=cls _ _ st'
  have x:tP I s {s with heap:=h',toks:=tk}:=⟨fun b o hb e=>hk b o (fun m=>hb (az.mp m)) e,⟨oI,hoI⟩,rfl,rfl⟩
  exact k v _ W (hP i v _ hv hx W le) x.leX (Y.priv pI x) ⟨(au.mp hx).1,pI,st',hax⟩
 done {i W hp s Q E}:=fun⟨hi,pI,st,hax⟩ le Y M hx k=>by
  have hi:i=l.length:=cK hi (dY.mp hx)
  subst hi
  refine X.done _ _ _ st fun h' tk hk=> ?_
  have x:zJ I s {s with heap:=h',toks:=tk}:=⟨fun b o hb e=>hk b o (fun m=>hb (az.mp m)) e,rfl,rfl⟩
  exact k _ x.leX (Y.gone pI x)
 keep {i X' W hp s W' hp' s'}:=fun⟨hi,pI,st,hax⟩ Y x hX M M Y'=>⟨hi,by
   obtain⟨oI,_,hoI,_⟩:=cls _ _ st
   exact(x.priv pI (hX I rfl) hoI).1,X.frame _ _ _ st fun c hc o e=>(aX.mp hc).elim (fun z=>z▸(x.priv pI (hX I rfl) (z▸e)).2) fun hc=>by
    obtain⟨ob,hb⟩:=hax c hc
    cases (Y.sub c ob hb).symm.trans e
    exact Y'.sub c _ (x.F _ _ hb),fun b hb=>(hax b hb).imp fun ob e=>x.F _ _ e⟩
 less {i W W' s}:=fun⟨hi,pI,st,hax⟩ hF hO hf=>⟨hi,pI.less hF hO hf,st,hF▸hax⟩
 letGo {i W s t v Q E}:=fun⟨hi,pI,st,hax⟩ h=>by
  refine(cls _ _ st).elim fun oI zz=>zz.elim fun T zz=>zz.elim fun hoI zz=>zz.elim fun hT hm=> ?_
  exact ni hoI hT hm h
 self {i W s Q E}:=fun⟨hi,pI,st,hax⟩ h=>X.self _ _ _ _ st h
theorem xV{I:aB}{m:Nat}{a:aB}{t:Ty}{l:List (den t)}(hh:A.handled=none)(hn:W0.own[m]? =some a):
  rC B A I (.one I) (l.map (emb t)) (fun hp=>hp[m]? =some (.list t l)) W0 fun i W s=>gp B W I∧s.heap.IsListIter I a i where
 next {i W hp s x Q E}:=fun⟨pI,hit⟩ le Y hq hx k=>by
  obtain⟨items,z,hl,hz,rs⟩:lZ s.heap a (bI (ff W.F t) · l):=Y.objs m a _ (le.own _ _ hn) hq
  rw[List.getElem?_map]at hx
  refine kP hx fun d hd z1z=> ?_
  obtain rfl:=z1z
  obtain⟨v,e1,e2⟩:=rs.get hd
  rw[cr]at e1
  refine wpAny_pyNext_list_item hit ⟨_,hl,rfl,_,rfl⟩ e1 fun h' hit' hs'=> ?_
  have x:tP I s {s with heap:=h'}:=SameBut.but (t:=s.toks) hs' (hit'.elim fun o e=>⟨o,e.1⟩)
  exact k v _ W e2.emb x.leX (Y.priv pI x) ⟨pI,hit'⟩
 done {i W hp s Q E}:=fun⟨pI,hit⟩ le Y hq hx k=>by
  obtain⟨items,z,hl,hz,rs⟩:lZ s.heap a (bI (ff W.F t) · l):=Y.objs m a _ (le.own _ _ hn) hq
  have e1:items[i]? =none:=by
   have h1:=dY.mp hx
   have h2:=rs.length
   rw[aN]at h2
   rw[aE]at h1
   exact Array.getElem?_eq_none (by lia)
  refine wpAny_pyNext_list_end hh hit ⟨_,hl,rfl,_,rfl⟩ e1 fun h' he'=> ?_
  have x:zJ I s {s with heap:=h'}:=⟨fun b o hb e=>he' b o hb e,rfl,rfl⟩
  exact k _ x.leX (Y.gone pI x)
 keep {i X' W hp s W' hp' s'}:=fun⟨pI,hit⟩ Y x hX M M Y'=>by
  refine hit.elim fun o zz=>zz.elim fun ho r=> ?_
  have:=x.priv pI (hX I rfl) ho
  exact⟨this.1,o,this.2,r⟩
 less {i W W' s}:=fun⟨pI,hit⟩ hF hO hf=>⟨pI.less hF hO hf,hit⟩
 letGo {i W s t v Q E}:=fun⟨pI,hit⟩ h=>by
  refine hit.elim fun o zz=>zz.elim fun ho zz=>zz.elim fun hc M=> ?_
  exact ni ho hc (lu (by kernel_rfl)) h
 self {i W s Q E}:=fun⟨pI,hit⟩ h=>wpAny_pyIter_listiter hit h
inductive xJ(B:bW)(A:bv)(W:Wd)(hp:Hp)(s:ag)(l:List V)(ok:Hp→Prop→Prop)(f:eG)(I:aB)(s1:ag):Prop
 |mk (Ok:Hp→Prop) (At:Nat→Wd→ag→Prop) (w:rC B A I f l Ok W At) (hok: ∀hp p,ok hp p→Ok hp∧p) (at0:At 0 W s1) (le:Le B W s W s1) (rel:R B W hp s1) (off:f.Off s) (alive: ∃o,s1.heap.get? I=some o)
theorem pJ{o:Obj}{ax:List aB}{l:List V}{P:Nat→Value→Prop}{St:Nat→dq→Prop}(Y:R B W hp s)(X:Walks B.prog B.w A s.heap.objs.size (s.heap.objs.size::ax) [s.heap.objs.size] l.length P St)(cls: ∀i h,St i h→∃o T,h.get? s.heap.objs.size=some o∧o.cls= .type T∧T∈jy)
  (hP: ∀i v x,P i v→l[i]? =some x→∀W',Tr W W'→a7 W' v x) (st:St 0 (s.heap.push o)) (hax: ∀b∈ax,∃ob,W.F b=some ob):xJ B A W hp s l (fun M p=>p) (.one s.heap.objs.size) s.heap.objs.size {s with heap:=s.heap.push o}:=by
 have h0:=cc (av s.heap.objs.size)
 have g:=dP.push s o s.toks
 obtain⟨oI,_,hoI,_⟩:=cls _ _ st
 exact .mk _ _ (A9 X cls hP) (fun M M h=>⟨trivial,h⟩) ⟨a9 _,Y.fresh h0,st,hax⟩ g.le (Y.grow g) (eG.off h0) ⟨oI,hoI⟩
theorem wi{a:aB}{items:Array Value}{us:List V}{o:Obj}{St:Nat→dq→Prop}(Y:R B W hp s)(X:Walks B.prog B.w A s.heap.objs.size [s.heap.objs.size,a] [s.heap.objs.size] items.size (fun i v=>items[i]? =some v) St)(cls: ∀i h,St i h→∃o T,h.get? s.heap.objs.size=some o∧o.cls= .type T∧T∈jy)
  (rs: ∀W',Tr W W'→dD W' items.toList us) (st:St 0 (s.heap.push o)) (ha: ∃ob,W.F a=some ob):xJ B A W hp s us (fun M p=>p) (.one s.heap.objs.size) s.heap.objs.size {s with heap:=s.heap.push o}:=by
 have e:=(rs W (.refl W)).length
 rw[aN]at e
 exact pJ (ax:=[a]) Y (e▸X) cls (fun i v x hv hx W' t=>by
  obtain⟨w,e1,e2⟩:=(rs W' t).get hx
  rw[cr,hv]at e1
  exact af e1▸e2) st fun b hb=>az.mp hb▸ha
theorem fJ.items{W:Wd}{l:List Value}{v:V}(r:fJ W l v):dD W l (items v):=by
 induction v generalizing l with
 |t0=>obtain rfl:=(show l=[]from r);exact .nil
 |tc a b _ ih=>exact fM.elim (C:=fun l=>dD W l (a::Internal.items b)) (show fM (V2 W a).1 (V2 W b).2 l from r) fun v r h t=> .cons h (ih t)
 |_=>exact r.elim
theorem jZ{v:V}{va:Value}{f:List V→(Hp→Prop→Prop)→Prop}{Q:Value→ag→Prop}(h:Bl hp v f)(hh:A.handled=none)(Y:R B W hp s)(r:a7 W va v)
  (hQ: ∀l ok I s1,f l ok→xJ B A W hp s l ok (.one I) I s1→Q (.ref I) s1):ar (model B.prog B.w) A (pyIter va) Q E s:=by
 cases v with
 |tc a b=>
  exact eD.elim (C:=fun va=>ar (model B.prog B.w) A (pyIter va) Q E s) (show eD "tuple" W.F _ va from r) fun x its m ho z q=>by
   have hx:=Y.sub _ _ ho
   refine wpAny_pyIter_tuple ⟨_,hx,rfl,_,rfl⟩ (hQ _ _ _ _ h (wi Y (Walks.tuple hh _ x (cR (dK hx)) its) (fun i h st=> ?_) (fun W' t=>fJ.items ((V2.mono t (.tc a b)).2 q)) ⟨⟨_,aF _ rfl,rfl,rfl⟩,⟨_,aD _ hx,rfl,_,rfl⟩⟩ ⟨_,ho⟩))
   obtain⟨⟨o,ho,hc,_⟩,_⟩:=st
   exact⟨o,_,ho,hc,lu (by kernel_rfl)⟩
 |lst ty l=>
  exact eD.elim (C:=fun va=>ar (model B.prog B.w) A (pyIter va) Q E s) (show eD "list" W.F _ va from r) fun x its m ho z q=>by
   have hx:=Y.sub _ _ ho
   refine wpAny_pyIter_list ⟨_,hx,rfl,_,rfl⟩ (hQ _ _ _ _ h (wi Y (Walks.list hh _ x (cR (dK hx)) its) (fun i h st=> ?_) (fun W' t=>bI.map ((bI.mono (fun M M q=>ff.emb (W:=W') (q.mono t.F)) q))) ⟨⟨_,aF _ rfl,rfl,rfl⟩,⟨_,aD _ hx,rfl,_,rfl⟩⟩ ⟨_,ho⟩))
   obtain⟨⟨o,ho,hc,_⟩,_⟩:=st
   exact⟨o,_,ho,hc,lu (by kernel_rfl)⟩
 |str x=>
  exact eJ.elim r fun t z=>by
   have key: ∀(T:String) (X:Walks B.prog B.w A s.heap.objs.size [s.heap.objs.size] [s.heap.objs.size] (⟨x.toArray⟩:Str).cps.size (SignAt ⟨x.toArray⟩) (fun i h=>h.IsStrIter s.heap.objs.size T ⟨x.toArray⟩ t i)),T∈jy→
     Q (.ref s.heap.objs.size) {s with heap:=s.heap.push {cls:= .type T,data:= .fields #[.str ⟨x.toArray⟩ t,.int 0 0]}}:=fun T X hT=>by
    have hl:(⟨x.toArray⟩:Str).cps.size=(x.map fun c=>V.str [c]).length:=by simp
    refine hQ _ _ _ _ h (pJ (ax:=[]) Y (hl▸X) (fun i h st=> ?_) (fun i v u hv hu W' M=> ?_) ⟨_,aF _ (by rfl),rfl,rfl⟩ nofun)
    ·refine st.elim fun o zz=>zz.elim fun ho zz=>zz.elim fun hc M=> ?_
     exact⟨o,_,ho,hc,hT⟩
    ·obtain⟨c,tu,e,rfl⟩:=hv
     have e':x[i]? =some c:=by simpa using e
     rw[List.getElem?_map,e']at hu
     obtain rfl:=af hu
     exact .mk tu (show 1≤bS by decide)
   cases ha:(⟨x.toArray⟩:Str).cps.all (· <128)
   ·exact wpAny_pyIter_wide ha (key _ (Walks.strWide hh _ _ t) (lu (by kernel_rfl)))
   ·exact wpAny_pyIter_ascii ha (key _ (Walks.strAscii hh _ _ t) (lu (by kernel_rfl)))
 |rng a b c=>
  cases r with |mk x t u w ho=>
   have hx:=Y.sub _ _ ho
   have e:=rangeSize_toNat a b c
   have hl:((eR a c (fk a b c)).map V.int).length=fk a b c:=by rw[aE,l6]
   refine wpAny_pyIter_range hx h.1 (hQ _ _ _ _ h.2 (pJ (ax:=[]) (P:=fun i v=>∃t,v= .int (a+i*c) t) (St:=fun i h=>IsRangeIter h s.heap.objs.size (a+(i:Nat)*c) (((fk a b c:Nat):Int)-(i:Nat)) c) Y (by rw[hl];exact Walks.range hh _ a c (fk a b c)) (fun i h st=>⟨_,_,st,rfl,lu (by kernel_rfl)⟩) (fun i v y hv hy W' M=> ?_) ?_ nofun))
   ·obtain⟨t,rfl⟩:=hv
    have:=(au.mp hy).1
    rw[List.getElem?_map,yt c _ a i (hl▸this)]at hy
    obtain rfl:=af hy
    exact .mk t
   ·show IsRangeIter _ _ _ _ _
    have e':((fk a b c:Nat):Int)-((0:Nat):Int)=bZ a b c:=by unfold fk;lia
    rw[e']
    have:a+((0:Nat):Int)*c=a:=by simp
    rw[this]
    exact aF _ rfl
 |own m=>
  exact qG h fun ty l q h=>Y.own r q fun a hn ro=>by
   obtain⟨items,z,hl,hz,rs⟩:lZ s.heap a (bI (ff W.F ty) · l):=ro
   refine wpAny_pyIter_list ⟨_,hl,rfl,_,rfl⟩ ?_
   have h0:=cc (av s.heap.objs.size)
   have g:=dP.push s {cls:= .type "list_iterator",data:= .fields #[.ref a,.int 0 0]} s.toks
   have e1:(s.heap.push {cls:= .type "list_iterator",data:= .fields #[.ref a,.int 0 0]}).get? s.heap.objs.size=some _:=aF _ rfl
   exact hQ _ _ _ _ h (.mk _ _ (xV hh hn) (fun M M h=>h) ⟨Y.fresh h0,⟨_,e1,rfl,rfl⟩⟩ g.le (Y.grow g) (eG.off h0) ⟨_,e1⟩)
 |_=>exact h.elim
end
def iw(B:bW)(W:Wd)(s:ag)(K:KV)(Q:Value→ag→Prop):Prop:=∀W' hp' s' v va ds,K v hp' ds→Le B W s W' s'→R B W' hp' s'→a7 W' va v→Q va s'
def mj(B:bW)(W:Wd)(s:ag)(K:Bool→Hp→Ds→Prop)(Q:Bool→ag→Prop):Prop:=∀W' hp' s' b ds,K b hp' ds→Le B W s W' s'→R B W' hp' s'→Q b s'
def A0(B:bW)(W:Wd)(s:ag)(K:List V→Hp→Ds→Prop)(Q:List Value→ag→Prop):Prop:=∀W' hp' s' l vs ds,K l hp' ds→Le B W s W' s'→R B W' hp' s'→dD W' vs l→Q vs s'
def Ji(W:Wd):Flow→Fl→Prop
 | .next,.next=>True
 | .brk,.brk=>True
 | .cont,.cont=>True
 | .ret v,.ret u=>a7 W v u
 |M,Δ=>False
def fR(B:bW)(W:Wd)(s:ag)(K:KF)(Q:Flow→ag→Prop):Prop:=∀W' hp' s' f vf ds,K f hp' ds→Le B W s W' s'→R B W' hp' s'→Ji W' vf f→Q vf s'
structure gz(B:bW)(C:cG)(n:Nat):Prop where
 top: ∀{a args kw hp ds K},C (.val (.ref a)) args kw hp ds K→∃o fd,B.h0.get? a=some o∧a ∉ B.tabs∧o.data= .func fd
 func: ∀{W hp s f va args kw ds K},C f args kw hp ds K→R B W hp s→a7 W va f→∃a o fd,va= .ref a∧s.heap.get? a=some o∧o.data= .func fd
 run: ∀{A:bv} {W hp s f va args bw kw kwv ds K} {Q:Value→ag→Prop} {E:Value→ag→Prop},C f args kw hp ds K→jg A n W.frs→R B W hp s→a7 W va f→dD W bw args→kwv.map (·.1)=kw.map (·.1)→dD W (kwv.map (·.2)) (kw.map (·.2))→iw B W s K Q→
  dX (model B.prog B.w) A (.call va ⟨bw,kwv⟩) (fun r s'=>match r with | .ok (.ret v)=>Q v s'| .ok _=>False| .error e=>E e s') s
structure fi(B:bW)(n:Nat)(r:Ev):Prop where
 ev: ∀{e Γ hp ds K} {A:bv} {W env s} {Q:Value→ag→Prop} {E:Value→ag→Prop},r.ev e Γ hp ds K→cj B n Γ A W env hp s→iw B W s K Q→ar (model B.prog B.w) A (eval e env) Q E s
 ts: ∀{e Γ hp ds K} {A:bv} {W env s} {Q:Bool→ag→Prop} {E:Value→ag→Prop},r.ts e Γ hp ds K→cj B n Γ A W env hp s→mj B W s K Q→ar (model B.prog B.w) A (isTrue e env (eval e env)) Q E s
 lc: ∀{elt gs scope p Γ hp ds K} {A:bv} {W env s} {Q:Value→ag→Prop} {E:Value→ag→Prop} {use:Option (Value→Sem Unit)},r.ev (.ListComp elt gs scope p) Γ hp ds K→cj B n Γ A W env hp s→
  (∀D L W' hp' s' v' ds',K v' hp' ds'→a7 W' (.ref D) v'→R B W' hp' s'→Le B W s W' s'→gp B W' L→(∃m,s'.heap.Ns L m)→s.heap.get? L=none→compPost (model B.prog B.w) A E use Q (.ref D) L (.ok .next) s')→
  ar (model B.prog B.w) A (comprehension (.ListComp elt gs scope p) scope env (firstIterPos gs p) (newList []) (firstAsync gs) (firstIter gs env) use) Q E s
 ex: ∀{e Γ hp ds K} {A:bv} {W env s} {Q:Flow→ag→Prop} {E:Value→ag→Prop},r.ex e Γ hp ds K→jA A env→cj B n Γ A W env hp s→fR B W s K Q→ar (model B.prog B.w) A (exec e env) Q E s
section
variable{B:bW}{G:fS}{C:cG}{r:Ev}{n:Nat}{Γ:Cx}{A:bv}{W W' W1:Wd}{env:Env}{hp hp':Hp}{s s' s1:ag}{ds:Ds}{E:Value→ag→Prop}
theorem iw.after{K:KV}{Q:Value→ag→Prop}(P:iw B W s K Q)(x:Le B W s W1 s1):iw B W1 s1 K Q:=fun W' hp' s' v va ds k y r q=>P W' hp' s' v va ds k (x.trans y) r q
theorem iw.at{K:KV}{Q:Value→ag→Prop}(P:iw B W s K Q)(ds:Ds):dH B W s (fun v hp=>K v hp ds) Q:=fun W' hp' s' v va k y r q=>P W' hp' s' v va ds k y r q
theorem mj.after{K:Bool→Hp→Ds→Prop}{Q:Bool→ag→Prop}(P:mj B W s K Q)(x:Le B W s W1 s1):mj B W1 s1 K Q:=fun W' hp' s' v ds k y r=>P W' hp' s' v ds k (x.trans y) r
theorem A0.after{K:List V→Hp→Ds→Prop}{Q:List Value→ag→Prop}(P:A0 B W s K Q)(x:Le B W s W1 s1):A0 B W1 s1 K Q:=fun W' hp' s' l vs ds k y r q=>P W' hp' s' l vs ds k (x.trans y) r q
theorem fR.after{K:KF}{Q:Flow→ag→Prop}(P:fR B W s K Q)(x:Le B W s W1 s1):fR B W1 s1 K Q:=fun W' hp' s' f vf ds k y r q=>P W' hp' s' f vf ds k (x.trans y) r q
theorem nD{b:Bool}{f:Bool→Ds→Prop}(h:br b ds f): ∃d,f b d:=by
 unfold br at h
 induction ds using aO with
 |nil=>exact⟨_,h⟩
 |cons d ds=>induction d using D.casesOn with
  |t=>exact⟨_,h⟩
  |b c=>exact⟨_,h.1▸h.2⟩
  |_=>exact⟨_,h⟩
theorem nv{m:Ds→KV→Prop}{K:KV}(h:EM m ds K){T:KV→Prop}(hm: ∀ds K,m ds K→T K)(mono: ∀{K1 K2:KV},(∀v hp d,K1 v hp d→∃d',K2 v hp d')→T K1→T K2):T K:=by
 unfold EM at h
 induction ds using aO with
 |nil=>exact hm _ _ h
 |cons d ds=>induction d using D.casesOn with
  |r v hp=>exact h.1.elim fun d q=>mono (K1:=fun v' h' M=>v'=v∧h'=hp) (fun M M M e=>⟨ds,e.1▸e.2▸h.2⟩) (hm _ _ q)
  |_=>exact hm _ _ h
theorem nw{m:Ds→KF→Prop}{K:KF}(h:q6 m ds K){T:KF→Prop}(hm: ∀ds K,m ds K→T K)(mono: ∀{K1 K2:KF},(∀v hp d,K1 v hp d→∃d',K2 v hp d')→T K1→T K2):T K:=by
 unfold q6 at h
 induction ds using aO with
 |nil=>exact hm _ _ h
 |cons d ds=>induction d using D.casesOn with
  |l v hp=>exact h.1.elim fun d q=>mono (K1:=fun v' h' M=>v'=v∧h'=hp) (fun M M M e=>⟨ds,e.1▸e.2▸h.2⟩) (hm _ _ q)
  |_=>exact hm _ _ h
theorem AJ{u:Ty}{m:Ds→(List (den u)→Hp→Ds→Prop)→Prop}{K:List (den u)→Hp→Ds→Prop}(h:EO u m ds K){T:(List (den u)→Hp→Ds→Prop)→Prop}(hm: ∀ds K,m ds K→T K)
  (mono: ∀{K1 K2:List (den u)→Hp→Ds→Prop},(∀v hp d,K1 v hp d→∃d',K2 v hp d')→T K1→T K2):T K:=by
 unfold EO at h
 induction ds using aO with
 |nil=>exact hm _ _ h
 |cons d ds=>induction d using D.casesOn with
  |c t l0 hp=>exact bO h fun l M h=>h.1.elim fun d q=>mono (K1:=fun v' h' M=>v'=l∧h'=hp) (fun M M M e=>⟨ds,e.1▸e.2▸h.2⟩) (hm _ _ q)
  |_=>exact hm _ _ h
theorem bp{b:Bool}{p:Prop}{c:Prop}(h:cond b p False)(k:b=true→p→c):c:=k (nA h).1 (nA h).2
theorem fE{e:Expr}{es:List Expr}(h:cQ (e::es)=true):starEach (e::es) env=(false,eval e env)::starEach es env∧cQ es=true:=by
 induction e using bC with
 |Starred=>exact bh h
 |_=>exact⟨rfl,h⟩
theorem lQ(O:fi B n r){es:List Expr}{p:Pos}: ∀{hp:Hp} {ds:Ds} {K:List V→Hp→Ds→Prop} {W:Wd} {s:ag} {Q:List Value→ag→Prop},cQ es=true→FO r es Γ hp ds K→cj B n Γ A W env hp s→A0 B W s K Q→
  ar (model B.prog B.w) A (spliced (backTo p (starEach es env))) Q E s:=by
 induction es with
 |nil=>exact fun M h Y P=>args_nil (P _ _ _ _ _ _ h (.refl ..) Y.relH .nil)
 |cons e es ih=>exact fun hp h Y P=>args_cons (O.ev h Y fun W1 hp1 s1 a va d1 h1 x1 R1 r1=>ih (fE (env:=env) hp).2 h1 (Y.le x1 R1) fun W2 hp2 s2 l vs d2 h2 x2 R2 r2=>P _ _ _ _ _ _ h2 (x1.trans x2) R2 (.cons (r1.tr x2.toTr) r2)) (fE hp).1
theorem eY{p:Pos}{es:List Expr}(h:cQ es=true): ∀t∈backTo p (starEach es env),t.1=false:=by
 induction es with
 |nil=>exact nofun
 |cons e es ih=>
  intro t ht
  rw[(fE h).1]at ht
  exact(aX.mp ht).elim (fun e=>e▸rfl) (ih (fE (env:=env) h).2 t)
theorem l7{k:Keyword}{ks:List Keyword}(h:gM (k::ks)=true): ∃x e q,k=⟨some x,e,q⟩∧gM ks=true:=by
 obtain⟨a,e,q⟩:=k
 induction a using aw with
 |none=>injection h
 |some x=>exact⟨x,e,q,rfl,h⟩
structure PM(p:Pos)(ks:List Keyword)(env:Env):Prop where
 all:(backToKw p (keywordEach ks env)).all (·.1.isSome)=true
 names:(backToKw p (keywordEach ks env)).filterMap (·.1)=ks.filterMap (·.arg)
 len:(backToKw p (keywordEach ks env)).length=ks.length
 len2:(ks.filterMap (·.arg)).length=ks.length
theorem yP{p:Pos}{ks:List Keyword}(h:gM ks=true):PM p ks env:=by
 induction ks with
 |nil=>exact⟨rfl,rfl,rfl,rfl⟩
 |cons k ks ih=>
  obtain⟨x,e,q,rfl,h⟩:=l7 h
  have z:=ih h
  exact⟨z.all,congrArg (x:: ·) z.names,congrArg (· +1) z.len,congrArg (· +1) z.len2⟩
theorem BI(O:fi B n r){ks:List Keyword}{p:Pos}: ∀{hp:Hp} {ds:Ds} {K:List (Str×V)→Hp→Ds→Prop} {W:Wd} {s:ag} {Q:List Value→ag→Prop},gM ks=true→jS r ks Γ hp ds K→cj B n Γ A W env hp s→
  (∀W' hp' s' kw vs ds,K kw hp' ds→Le B W s W' s'→R B W' hp' s'→ks.filterMap (·.arg)=kw.map (·.1)→dD W' vs (kw.map (·.2))→Q vs s')→ar (model B.prog B.w) A (evalAll ((backToKw p (keywordEach ks env)).map (·.2))) Q E s:=by
 induction ks with
 |nil=>exact fun M h Y P=>ao (P _ _ _ _ _ _ h (.refl ..) Y.relH rfl .nil)
 |cons k ks ih=>
  intro hp ds K W s Q hk h Y P
  obtain⟨x,e,q,rfl,hk⟩:=l7 hk
  refine aa (m:=(do let x ←eval e env;dI p;pure x)) (aa (O.ev h Y fun W1 hp1 s1 a va d1 h1 x1 R1 r1=>aa (aJ (ao (aa (aU (ih hk h1 (Y.le x1 R1) fun W2 hp2 s2 kw vs d2 h2 x2 R2 e2 r2=>ao ?_)))))))
  exact P _ _ _ _ _ _ h2 (x1.trans x2) R2 (congrArg (x:: ·) e2) (.cons (r1.tr x2.toTr) r2)
theorem tD(O:fi B n r){e:Option Expr}{K:KV}{Q:Value→ag→Prop}(h:OF r e Γ hp ds K)(Y:cj B n Γ A W env hp s)(P:iw B W s K Q):ar (model B.prog B.w) A (evalPart e env) Q E s:=by
 induction e using aw with
 |none=>exact wpAny_evalPart_none (P _ _ _ _ _ _ h (.refl ..) Y.relH rfl)
 |some e=>exact wpAny_evalPart_some (O.ev h Y P)
theorem zx(O:fi B n r){op:BoolOp}{es:List Expr}: ∀{hp:Hp} {ds:Ds} {K:Bool→Hp→Ds→Prop} {W:Wd} {s:ag} {Q:Bool→ag→Prop},LF r op es Γ hp ds K→cj B n Γ A W env hp s→mj B W s K Q→
  ar (model B.prog B.w) A (allTrue op es env) Q E s:=by
 induction es with
 |nil=>
  intro hp ds K W s Q h Y P
  rcases op with _|_<;>exact ao (P _ _ _ _ _ h (.refl ..) Y.relH)
 |cons x es ih=>
  intro hp ds K W s Q h Y P
  induction op using PySem.BoolOp.casesOn with
  |And=>
   refine wpAny_allTrue_And_cons (O.ts h Y fun W1 hp1 s1 c d1 h1 x1 R1=> ?_)
   obtain⟨d,h1⟩:=nD h1
   induction c using ah with
   |true=>exact ih h1 (Y.le x1 R1) (P.after x1)
   |false=>exact P _ _ _ _ _ h1 x1 R1
  |Or=>
   refine wpAny_allTrue_Or_cons (O.ts h Y fun W1 hp1 s1 c d1 h1 x1 R1=> ?_)
   obtain⟨d,h1⟩:=nD h1
   induction c using ah with
   |true=>exact P _ _ _ _ _ h1 x1 R1
   |false=>exact ih h1 (Y.le x1 R1) (P.after x1)
theorem xv(O:fi B n r){p:Pos}{rs:List Expr}: ∀{ops:List CmpOp} {a:V} {va:Value} {hp:Hp} {ds:Ds} {K:Bool→Hp→Ds→Prop} {W:Wd} {s:ag} {Q:Bool→ag→Prop},AR r rs a ops Γ hp ds K→cj B n Γ A W env hp s→a7 W va a→mj B W s K Q→
  ar (model B.prog B.w) A (testChain p va ops (evalEach rs env)) Q E s:=by
 induction rs with
 |nil=>exact fun h=>h.elim
 |cons x rs ih=>
  intro ops a va hp ds K W s Q h Y ra P
  induction ops using aO with
  |nil=>exact h.elim
  |cons op ops=>
   have hu:=Y.room.units
   induction ops using aO with
   |nil=>
    induction rs using aO with
    |nil=>exact aa (aU (O.ev h Y fun W1 hp1 s1 b vb d1 h1 x1 R1 r1=>aa (aJ (aa (wpAny_operate' (je h1 R1 (ra.tr x1.toTr) r1 (by omega) fun c h2=>aU (wpAny_truthy_bool (P _ _ _ _ _ h2 x1 R1))))))))
    |cons y rs=>exact aa (aU (O.ev h Y fun W1 hp1 s1 b vb d1 h1 x1 R1 r1=>aa (aJ (aa (aU (je h1 R1 (ra.tr x1.toTr) r1 (by omega) fun c h2=>h2.elim))))))
   |cons op' ops=>
    refine aa (aU (O.ev h Y fun W1 hp1 s1 b vb d1 h1 x1 R1 r1=>aa (aJ (aa (aU (je h1 R1 (ra.tr x1.toTr) r1 (by omega) fun c h2=> ?_))))))
    refine aa (wpAny_release (aa (aU (wpAny_truthy_bool ?_))))
    obtain⟨d,h2⟩:=nD (f:=fun c ds=>cond c (AR r rs b (op'::ops) Γ hp1 ds K) (K false hp1 ds)) h2
    induction c using ah with
    |true=>exact ih h2 (Y.le x1 R1) r1 (P.after x1)
    |false=>exact ao (P _ _ _ _ _ h2 x1 R1)
noncomputable def mY(ifs:List Expr)(env:Env):Sem Bool:=forIn ifs true fun c r=>if r=true then do let ok ←isTrue c env (eval c env);pure (ForInStep.yield ok)else pure (ForInStep.yield r)
theorem vW{Q:Bool→ag→Prop}{es:List Expr}(h:Q false s):ar (model B.prog B.w) A (forIn es false fun c r=>if r=true then do let ok ←isTrue c env (eval c env);pure (ForInStep.yield ok)else pure (ForInStep.yield r)) Q E s:=by
 induction es with
 |nil=>rw[List.forIn_nil];exact ao h
 |cons e es ih=>
  rw[List.forIn_cons]
  exact aa (ao ih)
theorem oz(O:fi B n r){es:List Expr}: ∀{hp:Hp} {ds:Ds} {K:Bool→Hp→Ds→Prop} {W:Wd} {s:ag} {Q:Bool→ag→Prop},zT r es Γ hp ds K→cj B n Γ A W env hp s→mj B W s K Q→ar (model B.prog B.w) A (mY es env) Q E s:=by
 induction es with
 |nil=>
  intro hp ds K W s Q h Y P
  unfold mY
  rw[List.forIn_nil]
  exact ao (P _ _ _ _ _ h (.refl ..) Y.relH)
 |cons x es ih=>
  intro hp ds K W s Q h Y P
  unfold mY
  rw[List.forIn_cons,if_pos rfl]
  refine aa (aa (O.ts h Y fun W1 hp1 s1 c d1 h1 x1 R1=>ao ?_))
  refine(nD h1).elim fun d h1=> ?_
  induction c using ah with
  |true=>exact ih h1 (Y.le x1 R1) (P.after x1)
  |false=>exact vW (P _ _ _ _ _ h1 x1 R1)
end
section
variable{B:bW}{A:bv}{W:Wd}{hp:Hp}{s:ag}{E:Value→ag→Prop}{K:V→Hp→Prop}{Q:Value→ag→Prop}
theorem v7{own:Bool}{args:List V}{kw:List (Str×V)}{bw:List Value}{kwv:List (Str×Value)}(h:sN own args kw hp K)(R:R B W hp s)(rs:dD W bw args)(e1:kwv.map (·.1)=kw.map (·.1))(r1:dD W (kwv.map (·.2)) (kw.map (·.2)))(P:dH B W s K Q):
  ar (model B.prog B.w) A (call (.builtin "sorted") bw kwv) Q E s:=by
 induction q:Am kw using ah with
 |true=>exact v8 q h R rs e1 r1 P
 |false=>
  unfold sN at h
  rw[q]at h
  have h:iu kw _:=h
  induction kw using aO with
  |nil=>induction kwv using aO with
   |nil=>exact v9 h R rs P
   |cons _ _=>injection e1
  |cons _ _=>exact h.elim
end
inductive vD(B:bW)(C i:aB):Prop
 |mk (T:Frag) (o:Obj) (c:ClassData) (X: ∀W hp s,R B W hp s→T.In s.heap) (hm:makesIn T C=true) (hi:findIn T (.ref C) "__init__"=some (some (.ref i))) (hf:typeIn T (.ref i)=some (.type "function"))
  (ho:B.h0.get? C=some o) (ht:C ∉ B.tabs) (hd:o.data= .cls c) (hc:o.cls= .type "type")
structure GlbI(B:bW)(G:fS):Prop extends GlbOk B G where
 init: ∀C i,G.init C=some i→vD B C i
section
variable{B:bW}{G:fS}{C:cG}{r:Ev}{n:Nat}{Γ:Cx}{A:bv}{W W' W1:Wd}{env:Env}{hp hp':Hp}{s s' s1:ag}{ds:Ds}{E:Value→ag→Prop}{K:KV}{Q:Value→ag→Prop}
def xH(Q E:Value→ag→Prop)(r:Result)(s:ag):Prop:=match r with
 | .ok (.ret v)=>Q v s
 | .ok M=>False
 | .error e=>E e s
theorem wr{f:Nat→Option Nat}(x:L5 f W W'){us:List V}: ∀{us':List V} {vs:List Value},wt f us=some us'→dD W vs us→dD W' vs us':=by
 induction us with
 |nil=>
  intro us' vs h r
  obtain rfl:=af h
  exact r.inv0 (C:=fun vs=>bI (a7 W') vs []) .nil
 |cons u us ih=>
  intro us' vs h r
  refine jD h fun u' h1 h=> ?_
  refine kP h fun l h2 z1z=> ?_
  obtain rfl:=z1z
  exact r.inv (C:=fun vs=>bI (a7 W') vs (u'::l)) fun v w a b=> .cons (a.ren x h1) (ih h2 b)
theorem yn{α β γ:Type}{g:α→Option β}{l:List (γ×α)}: ∀{l':List (γ×β)},rV g l=some l'→l'.map (·.1)=l.map (·.1):=by
 induction l with
 |nil=>intro l' h;obtain rfl:=af h;rfl
 |cons p l ih=>
  intro l' h
  refine jD h fun u' h1 h=> ?_
  refine kP h fun r h2 z1z=> ?_
  obtain rfl:=z1z
  exact congrArg (p.1:: ·) (ih h2)
theorem Bw{f:Nat→Option Nat}{l:List (Str×V)}: ∀{l':List (Str×V)},rV (iA f) l=some l'→wt f (l.map (·.2))=some (l'.map (·.2)):=by
 induction l with
 |nil=>intro l' h;obtain rfl:=af h;rfl
 |cons p l ih=>
  intro l' h
  refine jD h fun u' h1 h=> ?_
  refine kP h fun r h2 z1z=> ?_
  obtain rfl:=z1z
  exact Option.bind_eq_some_iff.mpr ⟨u',h1,bG.mpr ⟨_,ih h2,rfl⟩⟩
theorem o8{f:V}{args:List V}{kw:List (Str×V)}(h:iD C f args kw hp ds K)(Y:R B W hp s){va:Value}(rf:a7 W va f){p:Prop}
  (k: ∀J hp1 f' args' kw',nV J=true→sK (fun k=>iF k J 0) hp J=some hp1→(∀n∈J,n<W.own.length)→R B (W.sub J) hp1 s→a7 (W.sub J) va f'→wt (fun k=>iF k J 0) args=some args'→rV (iA fun k=>iF k J 0) kw=some kw'→
   EM (C f' args' kw' hp1) ds (fun v hp2 ds=>fN (iA (pa J hp.length) v) fun v=>fN (wv (pa J hp.length) hp2) fun hp2=>K v (FL J hp (hp2.take J.length)++hp2.drop J.length) ds)→p):p:=by
 unfold iD at h
 generalize km hp 400 (f::args++kw.map (·.2)) []=J at h
 refine bp h fun nd h=>bO h fun hp1 e1 h=>bO h fun f' e2 h=>bO h fun args' e3 h=>bO h fun kw' e4 h=> ?_
 have hJ: ∀n∈J,n<W.own.length:=fun m h=>Y.len▸(qh e1).2.1 m h
 exact k J hp1 f' args' kw' nd e1 hJ (Y.part e1 (nU nd)) (rf.ren (m6 hJ) e2) e3 e4 h
theorem xC(O:gz B C n){f:V}{args:List V}{kw:List (Str×V)}(h:iD C f args kw hp ds K)(Y:R B W hp s){va:Value}(rf:a7 W va f): ∃a o fd,va= .ref a∧s.heap.get? a=some o∧o.data= .func fd:=
 o8 h Y rf fun J hp1 f' args' kw' nd e1 hJ Y1 rf' M M h=>nv h (T:=fun M=>∃a o fd,va= .ref a∧s.heap.get? a=some o∧o.data= .func fd) (fun M M h=>O.func h Y1 rf') fun M h=>h
theorem kg(O:gz B C n){f:V}{args:List V}{kw:List (Str×V)}{va:Value}{bw:List Value}{kwv:List (Str×Value)}(h:iD C f args kw hp ds K)(hr:jg A n W.frs)(Y:R B W hp s)(rf:a7 W va f)(rs:dD W bw args)(e1:kwv.map (·.1)=kw.map (·.1))
  (r1:dD W (kwv.map (·.2)) (kw.map (·.2))) (P:iw B W s K Q):dX (model B.prog B.w) A (.call va ⟨bw,kwv⟩) (xH Q E) s:=by
 refine o8 h Y rf fun J hp1 f' args' kw' nd h1 hJ Y1 rf' e3 e4 h=> ?_
 refine nv h (T:=fun K'=>∀{Q:Value→ag→Prop},iw B (W.sub J) s K' Q→dX (model B.prog B.w) A (.call va ⟨bw,kwv⟩) (xH Q E) s)
  (fun M M h Q P'=>O.run (W:=W.sub J) h hr Y1 rf' (wr (m6 hJ) e3 rs) (e1.trans (yn e4).symm) (wr (m6 hJ) (Bw e4) r1) P')
  (fun m t Q P'=>t fun W' hp' s' v va d k=>(m v hp' d k).elim fun d' k'=>P' W' hp' s' v va d' k') fun W2 hp2 s2 v va d2 h2 x2 R2 r2=> ?_
 refine bO h2 fun v' hv h2=>bO h2 fun hp3 hh h2=> ?_
 obtain⟨Rb,xb,ren⟩:=Y.back (nU nd) hJ x2 R2 hh
 exact P _ _ _ _ _ _ h2 xb Rb (r2.ren ren hv)
theorem M4{kw:List (Str×V)}{kwv:List (Str×Value)}{p:Prop}(h:iu kw p)(e:kwv.map (·.1)=kw.map (·.1)):p∧kw=[]∧kwv=[]:=by
 induction kw using aO with
 |nil=>induction kwv using aO with
  |nil=>exact⟨h,rfl,rfl⟩
  |cons _ _=>injection e
 |cons _ _=>exact h.elim
theorem iW{a k n c d L:Nat}(h:a+k*(n+1)+c<L)(hd:d≤k):a+d+k*n+c<L:=by
 refine aj (aT ?_ c) h
 rw[Nat.mul_succ,da,bK d]
 exact bH (bH hd _) a
theorem xX{C:aB}{bw:List Value}{kwv:List (Str×Value)}{fs:List aB}(hr:jg A (n+1) fs):jg (A.under (.builtin "type.__call__" ⟨.ref C::bw,kwv⟩)) n fs:=
 ⟨hr.handled,iW (d:=(Code.builtin "type.__call__" ⟨.ref C::bw,kwv⟩).weight) hr.depth (ad (aC (by kernel_rfl:_=1)) (by decide)),iW (d:=(Code.builtin "type.__call__" ⟨.ref C::bw,kwv⟩).cUnits) hr.units (ad (aC (by kernel_rfl:_=1)) (by decide)),hr.stk⟩
theorem yW(O:gz B C n){c i:aB}{args:List V}{kw:List (Str×V)}{bw:List Value}{kwv:List (Str×Value)}(I:vD B c i)
  (h:iD C (.val (.ref i)) (.own (hp.length+1)::args) kw (hp++[.attrs [],.inst c hp.length]) ds fun v hp' ds=>v= .none∧K (.own (hp.length+1)) hp' ds) (hr:jg A (n+1) W.frs) (Y:R B W hp s) (rs:dD W bw args) (e1:kwv.map (·.1)=kw.map (·.1))
  (r1:dD W (kwv.map (·.2)) (kw.map (·.2))) (P:iw B W s K Q):dX (model B.prog B.w) A (.call (.ref c) ⟨bw,kwv⟩) (xH Q E) s:=by
 obtain⟨T,o,c',X,hm,hi,hf,ho,ht,hd,hc⟩:=I
 have X:=X _ _ _ Y
 obtain⟨hh,g,d,t,os⟩:=s
 refine make_core (makes_of X hm) (looks_findIn X hi) (fun self=>bind_fn X self hf) (.inl rfl) ?_
 have h0:hh.get? hh.objs.size=none:=cc (av _)
 have g1:dP ⟨hh,g,d,t,os⟩ ⟨hh.push emptyDict,g,d,t,os⟩:=⟨fun M M=>aD _,rfl,rfl⟩
 have d1:(hh.push emptyDict).get? hh.objs.size=some emptyDict:=aF _ rfl
 have R1:=Y.add (o':= .attrs []) g1 h0 (rI.mk (fun M=>none) (dq.Ns1.of_empty ⟨_,#[],_,d1,rfl,fun e he=>absurd he (by simp),fun M=>rfl⟩) ⟨_,d1,rfl,rfl⟩ fun M=>rfl)
 have e2:(hh.push emptyDict).objs.size=hh.objs.size+1:=dn ..
 have h2:(hh.push emptyDict).get? (hh.objs.size+1)=none:=cc (aC e2)
 have g2:dP ⟨hh.push emptyDict,g,d,t,os⟩ ⟨(hh.push emptyDict).push (instObj c hh.objs.size),g,d,t,os⟩:=⟨fun M M=>aD _,rfl,rfl⟩
 have d2:((hh.push emptyDict).push (instObj c hh.objs.size)).get? (hh.objs.size+1)=some (instObj c hh.objs.size):=e2▸aF (hh.push emptyDict) (o:=instObj c hh.objs.size) rfl
 have hat:(W.add hh.objs.size).own[hp.length]? =some hh.objs.size:=Y.addAt
 have R2:=R1.add (o':= .inst c hp.length) g2 h2 (A5.mk _ hh.objs.size d2 rfl (fun c=>nofun) rfl (Tr.add.own _ _ hat))
 have hself:((W.add hh.objs.size).add (hh.objs.size+1)).own[hp.length+1]? =some (hh.objs.size+1):=by
  have:=R1.addAt (a:=hh.objs.size+1)
  rwa [ak]at this
 have x12:=(g1.leAdd (W:=W) (B:=B) h0).trans (g2.leAdd h2)
 rw[aQ]at R2
 refine codeAny_mono (kg (W:=(W.add hh.objs.size).add (hh.objs.size+1)) (E:=E) (Q:=fun v s'=>v= .none∧Q (.ref (hh.objs.size+1)) s') O h (xX hr) R2 rfl (.cons (.mk _ hself) (rs.tr x12.toTr)) e1 (r1.tr x12.toTr) fun W' hp' s' v va d hv x R' r=> ?_) fun r s' hr'=> ?_
 ·obtain⟨rfl,hK⟩:=hv
  exact⟨r,P _ _ _ _ _ _ hK (x12.trans x) R' (.mk _ (x.own _ _ hself))⟩
 ·induction r using Except.casesOn with
  |error e=>exact hr'
  |ok fl=>rcases fl with _|_<;>first|exact hr'.elim|exact hr'
theorem o7(g:GlbI B G)(O:gz B C n){own:Bool}{f:V}{vf:Value}{args:List V}{bw:List Value}{kw:List (Str×V)}{kwv:List (Str×Value)}(h:Fb G C own f args kw hp ds K)(hr:jg A (n+1) W.frs)(Y:R B W hp s)
  (rf:a7 W vf f) (rs:dD W bw args) (e1:kwv.map (·.1)=kw.map (·.1)) (r1:dD W (kwv.map (·.2)) (kw.map (·.2))) (P:iw B W s K Q):
  (∀ks:List (Option Str×Sem Value),ks.length=kw.length→lJ s vf ks)∧ar (model B.prog B.w) A (call vf bw kwv) Q E s:=by
 have fn: ∀{f:V},iD C f args kw hp ds K→a7 W vf f→(∀ks:List (Option Str×Sem Value),ks.length=kw.length→lJ s vf ks)∧ar (model B.prog B.w) A (call vf bw kwv) Q E s:=fun h rf=>by
  obtain⟨a,o,fd,rfl,ho,hd⟩:=xC O h Y rf
  exact⟨fun ks M=> .func ho hd,wpAny_call (kg O h (hr.less (cN n)) Y rf rs e1 r1 P)⟩
 induction f using V.casesOn with
 |val c=>
  have e:vf=c:=rf
  subst e
  induction vf using PySem.Value.casesOn with
  |builtin id=>
   refine⟨fun ks M=> .builtin id,?_⟩
   have h:cond (id=="sorted") (sN own args kw hp fun v hp=>K v hp ds) (iu kw (Fd id args hp fun v hp=>K v hp ds)):=h
   refine eP h (fun h=>v7 (K:=fun v hp=>K v hp ds) h Y rs e1 r1 (P.at ds)) fun h=> ?_
   obtain⟨h2,rfl,rfl⟩:=M4 h e1
   exact xB h2 Y hr.handled rs (P.at ds)
  |type T=>
   obtain⟨h2,rfl,rfl⟩:=M4 (show iu kw _ from h) e1
   exact⟨fun ks hk=>List.length_eq_zero_iff.mp hk▸ .type T,xz h2 Y hr.handled rs (P.at ds)⟩
  |ref a=>
   have h:Fc G C a args kw hp ds K:=h
   unfold Fc at h
   induction hi:G.init a using aw with
   |none=>rw[hi]at h;exact fn h rf
   |some i=>
    rw[hi]at h
    have I:=g.init a i hi
    refine⟨fun ks M=> ?_,wpAny_call (yW O I h hr Y rs e1 r1 P)⟩
    cases I with |mk T o c' X hm hi hf ho ht hd hc=>exact .cls (Y.old ho ht) hd hc
  |_=>exact h.elim
 |own m=>exact fn h rf
 |_=>exact h.elim
theorem vt(g:GlbI B G)(O:gz B C n){own:Bool}{c:fK}{v:V}{va f:Value}{first:List Value}{args:List V}{bw:List Value}{kw:List (Str×V)}{kwv:List (Str×Value)}(h:Fs G C own c v args kw hp ds K)(hr:jg A (n+1) W.frs)(Y:R B W hp s)
  (hf:ji B W s c va f first) (rv:a7 W va v) (rs:dD W bw args) (e1:kwv.map (·.1)=kw.map (·.1)) (r1:dD W (kwv.map (·.2)) (kw.map (·.2))) (P:iw B W s K Q):
  (∀ks:List (Option Str×Sem Value),ks.length=kw.length→lJ s f ks)∧ar (model B.prog B.w) A (call f (first++bw) kwv) Q E s:=by
 induction c using fK.casesOn with
 |fn u us=>exact o7 g O h hr Y hf.1 (hf.2.append rs) e1 r1 P
 |meth id=>
  obtain⟨rfl,rfl⟩:=hf
  obtain⟨h2,rfl,rfl⟩:=M4 (show iu kw _ from h) e1
  exact⟨fun ks M=> .builtin id,oU h2 Y rv rs (P.at ds)⟩
 |pat ok=>exact(show False from h).elim
theorem GE{C:fK→Prop}{c:fK}{f:(List Nat→Bool×Bool)→Prop}(h:MK c f)(k: ∀ok,f ok→C (.pat ok)):C c:=by
 induction c using fK.casesOn with
 |pat ok=>exact k ok h
 |_=>exact h.elim
theorem uf{ok:List Nat→Bool×Bool}{va f:Value}{first bw:List Value}{args:List V}{KB:Bool→Hp→Ds→Prop}{QB:Bool→ag→Prop}(h:iE args fun x=>gU x fun x=>(ok x).1=true∧KB (ok x).2 hp ds)(Y:R B W hp s)(hf:ji B W s (.pat ok) va f first)(rs:dD W bw args)(P:mj B W s KB QB):
  (∀ks:List (Option Str×Sem Value),ks.length=0→lJ s f ks)∧ar (model B.prog B.w) A (call f (first++bw) []) (fun v s=>ar (model B.prog B.w) A (truthy v) QB E s) E s:=by
 obtain⟨rfl,rfl,a,code,rfl,hP,hs⟩:=hf
 refine⟨fun ks hk=>List.length_eq_zero_iff.mp hk▸ .builtin _,?_⟩
 refine eA (C:=fun args=>dD W bw args→_) h (fun x h rs=>rs.inv1 (C:=fun bw=>ar (model B.prog B.w) A (call (.builtin "re.Pattern.search") ([.ref a]++bw) []) _ E s) fun vx rx=>fj (C:=fun x=>a7 W vx x→ar (model B.prog B.w) A (call (.builtin "re.Pattern.search") ([.ref a]++[vx]) []) _ E s) h (fun x h rx=>eJ.elim (C:=fun vx=>ar (model B.prog B.w) A (call (.builtin "re.Pattern.search") ([.ref a]++[vx]) []) _ E s) rx fun t hz=> ?_) rx) rs
 have hz':(⟨x.toArray⟩:Str).cps.size<2^62:=aj (ad (aC cA) hz) (by decide)
 obtain⟨hb,h⟩:=h
 have q:=hs x hb
 generalize (ok x).2=b at q h
 induction b using ah with
 |false=>exact wm (hP _ _ _ Y) hz' q (truthy_none (P _ _ _ _ _ h (.refl ..) Y))
 |true=>
  refine wk (hP _ _ _ Y) hz' q fun tp vs=>tV (aF _ rfl) ?_
  have g:dP s {s with heap:=(s.heap.push tp).push {cls:= .type "re.Match",data:= .fields vs}}:=⟨fun M M e=>aD _ (aD _ e),rfl,rfl⟩
  exact P _ _ _ _ _ h g.le (Y.grow g)
end
noncomputable def q9(e elt:Expr)(g?:Option cT)(d:Nat)(it acc:Value)(env:Env):Sem Fin:=
 match g? with
 |some g'=>do
  let x ←eval g'.iter env
  dI g'.iter.pos
  let x ←foldedSetIterable g'.iter env x
  let i ←holding [x] (pyIter x)
  let _ ←runOwn (.compStart e (d+1) i acc env) env
  again (.compLoop e d it acc env)
 |none=>do
  (do let _ ←call (.builtin "list.append") [acc,←eval elt env])
  again (.compLoop e d it acc env)
theorem xr{elt:Expr}{gens:List cT}{scope:Scope}{pos:Pos}{d:Nat}{it acc:Value}{env:Env}{t iter:Expr}{ifs:List Expr}(hg:gens[d]? =some ⟨t,iter,ifs,0⟩)(h0: ∀g',gens[d+1]? =some g'→g'.is_async=0):
  compTurn (.ListComp elt gens scope pos) d it acc env=(do
   dI iter.pos
   match ←pyNext it with
   |none=>pure (.done .next)
   |some v=>
    letOwnedTupleGo t it v
    assign t env v
    let ok ←mY ifs env
    if ok then q9 (.ListComp elt gens scope pos) elt gens[d+1]? d it acc env else again (.compLoop (.ListComp elt gens scope pos) d it acc env)):=by
 unfold compTurn
 simp only[hg]
 induction h2:gens[d+1]? using aw with
 |none=>rfl
 |some g'=>
  obtain⟨t2,i2,f2,a⟩:=g'
  have:a=0:=h0 _ h2
  subst this
  rfl
def CG(B:bW)(A:bv)(e elt t:Expr)(ifs:List Expr)(g?:Option cT)(d:Nat)(I D:aB)(cenv:Env)(va:Value)(QS:ag→Prop)(E:Value→ag→Prop)(s:ag):Prop:=
 ar (model B.prog B.w) A (assign t cenv va) (fun M s₂=>ar (model B.prog B.w) A (mY ifs cenv) (fun ok s₃=>
  if ok=true then ar (model B.prog B.w) A (q9 e elt g? d (.ref I) (.ref D) cenv) (fun f s₅=>f= .again (.compLoop e d (.ref I) (.ref D) cenv)∧QS s₅) E s₃ else QS s₃) E s₂) E s
structure ku(B:bW)(W:Wd)(s:ag)(D:aB)(u:Ty)(out:List (den u)):Prop where
 priv:gp B W D
 list: ∃ys m,IsL s.heap D ys m∧bI (ff W.F u) ys.toList out
def tM(B:bW)(W:Wd)(s:ag)(D:aB)(u:Ty)(out:List (den u))(c:Nat)(k:List (den u)→Hp→Ds→Prop)(QS:ag→Prop):Prop:=∀W' s' o hp' ds,k o hp' ds→o.length≤c→ml B (.one D) W s W' s'→R B W' hp' s'→ku B W' s' D u (out++o)→QS s'
section
variable{B:bW}{G:fS}{C:cG}{r:Ev}{n:Nat}{Γ:Cx}{A:bv}{W W' W0 W1:Wd}{env:Env}{hp hp':Hp}{s s' s0 s1:ag}{ds:Ds}{E:Value→ag→Prop}{u:Ty}{out:List (den u)}{D:aB}
theorem lW{elt target iter:Expr}{ifs:List Expr}{gens:List cT}{d:Nat}{scope:Scope}{pos:Pos}{I acc:aB}{env:Env}{RR:Result→ag→Prop}(hg:gens[d]? =some ⟨target,iter,ifs,0⟩)(h0: ∀g',gens[d+1]? =some g'→g'.is_async=0)(J:Nat→ag→Prop)
  (turn: ∀n s,J n s→∀E,ar (model B.prog B.w) A (pyNext (.ref I)) (fun r s₁=>match r with
   |none=>RR (.ok .next) s₁
   |some v=>ar (model B.prog B.w) A (letOwnedTupleGo target (.ref I) v) (fun M s₁'=>CG B A (.ListComp elt gens scope pos) elt target ifs gens[d+1]? d I acc env v (fun s=>∃m,m<n∧J m s) E s₁') E s₁) E s)
  (n:Nat) (h:J n s):dX (model B.prog B.w) A (.compLoop (.ListComp elt gens scope pos) d (.ref I) (.ref acc) env) RR s:=by
 refine codeAny_loop rfl J (fun n s hJ=> ?_) n h
 show ar _ A ((compTurn (.ListComp elt gens scope pos) d (.ref I) (.ref acc) env).onRaise (fun x=>do noteFrame x env;theTreesLotGoes x)) _ _ s
 refine wpAny_noted ?_
 rw[xr hg h0]
 refine aa (aJ (aa (bF (turn n s hJ _) (fun r s₁ h₁=> ?_) fun M M h'=>h')))
 induction r using aw with
 |none=>exact ao h₁
 |some v=>
  refine aa (bF h₁ (fun M s₁' h₁'=> ?_) fun M M h'=>h')
  refine aa (bF h₁' (fun M s₂ h₂=>aa (bF h₂ (fun ok s₃ h₃=> ?_) fun M M h'=>h')) fun M M h'=>h')
  induction ok using ah with
  |false=>exact ao ⟨rfl,h₃⟩
  |true=>
   refine bF h₃ (fun f s₄ h₄=> ?_) fun M M h'=>h'
   obtain⟨rfl,h₄⟩:=h₄
   exact⟨rfl,h₄⟩
theorem iq{elt t iter:Expr}{ifs:List Expr}{gens:List cT}{d:Nat}{scope:Scope}{pos:Pos}{it acc:Value}{env:Env}{RR:Result→ag→Prop}(hg:gens[d]? =some ⟨t,iter,ifs,0⟩)
  (h0:dX (model B.prog B.w) A (.compLoop (.ListComp elt gens scope pos) d it acc env) RR s)
  (h:ar (model B.prog B.w) A (pyIter it) (fun it' s'=>dX (model B.prog B.w) A (.compLoop (.ListComp elt gens scope pos) d it' acc env) RR s') (notedBy (model B.prog B.w) A env fun x s'=>RR (.error x) s') s):
  dX (model B.prog B.w) A (.compStart (.ListComp elt gens scope pos) d it acc env) RR s:=by
 have hc:(clausesOf (.ListComp elt gens scope pos))[d]? =some ⟨t,iter,ifs,0⟩:=hg
 refine codeAny_of_tree ?_
 show ar _ _ ((compStart (.ListComp elt gens scope pos) d it acc env).onRaise (fun x=>do noteFrame x env;dI theWindowsPlace)) _ _ s
 refine wpAny_notedAt ?_
 unfold compStart
 simp only[hc,Option.elim,bne_self_eq_false,Bool.false_eq_true,if_false]
 refine aa (wpAny_askSetting (wpAny_ite ?_))
 split
 ·first
   |exact aa (ao (ao (ai rfl h0)))
   |exact ao (ai rfl h0)
 ·first
   |exact aa (wpAny_rule (aa (aJ (aa (bF h (fun it' s' h'=>ao (ai rfl h')) fun M M x=>x)))))
   |(refine aa (wpAny_rule ?_);show ar _ _ (dI iter.pos>>=_) _ _ s;exact aa (aJ (aa (bF h (fun it' s' h'=>ao (ai rfl h')) fun M M x=>x))))
theorem rY(names:List Str)(l:List (Str×V))(y:Str):(pM names l).lookup y=(l.lookup y).map (fun v=>cond (names.contains y) .unb v):=by
 induction l with
 |nil=>rfl
 |cons p l ih=>
  show((p.1,cond (names.contains p.1) V.unb p.2)::pM names l).lookup y=_
  rw[cz,cz,ih]
  cases c:y==p.1
  ·rfl
  ·rw[eq_of_beq c];rfl
theorem R.forget{fr:Nat}{names:List Str}(Y:R B W hp s):R B W (forget fr names hp) s:=by
 unfold Internal.forget
 induction q:hp[fr]? using aw with
 |none=>exact Y
 |some o=>
  induction o using AO.casesOn with
  |loc l=>
   have hl:fr<W.own.length:=Y.len▸(au.mp q).1
   have hn:W.own[fr]? =some W.own[fr]:=aR hl
   obtain⟨m,hns,rm⟩:jH s.heap W W.own[fr] l:=Y.objs fr _ _ hn q
   have x:tP W.own[fr] s s:=⟨fun M M M e=>e,(Y.objs fr _ _ hn q).alive,rfl,rfl⟩
   refine Y.write x hn (Y.offAt hn q nofun) (o':= .loc (pM names l)) (jH.mk m hns fun y w e=> ?_) fun M=>⟨_,rfl⟩
   rw[rY]at e
   refine kP e fun v e1 e2=> ?_
   rcases c:names.contains y with _|_<;>rw[c]at e2
   ·exact e2▸rm y v e1
   ·exact .inl e2.symm
  |_=>exact Y
theorem O4{a b c d e z:Nat}(h1:d+c≤e)(h2:b≤d)(h3:a+e≤z):a+b+c≤z:=by lia
theorem LW{α β:Type}{P:α→β→Prop}{G:Prop}(h: ∃a b,P a b)(k: ∀a b,P a b→G):G:=h.elim fun a h=>h.elim (k a)
theorem P9{α β γ δ ε:Type}{P:α→β→γ→δ→ε→Prop}{G:Prop}(h: ∃a b c d e,P a b c d e)(k: ∀a b c d e,P a b c d e→G):G:=h.elim fun a h=>h.elim fun b h=>h.elim fun c h=>h.elim fun d h=>h.elim (k a b c d)
theorem P8{α β γ δ ε ζ:Type}{P:α→β→γ→δ→ε→ζ→Prop}{G:Prop}(h: ∃a b c d e f,P a b c d e f)(k: ∀a b c d e f,P a b c d e f→G):G:=h.elim fun a h=>P9 h (k a)
theorem Oi{a b c d e f G:Prop}(h:a∧b∧c∧d∧e∧f)(k:a→b→c→d→e→f→G):G:=k h.1 h.2.1 h.2.2.1 h.2.2.2.1 h.2.2.2.2.1 h.2.2.2.2.2
theorem PH{a b c d e f g i j G:Prop}(h:a∧b∧c∧d∧e∧f∧g∧i∧j)(k:a→b→c→d→e→f→g→i→j→G):G:=Oi h fun a b c d e h=>k a b c d e h.1 h.2.1 h.2.2.1 h.2.2.2
theorem tG{elt t iter:Expr}{ifs:List Expr}{gens:List cT}{d:Nat}{scope:Scope}{pos:Pos}{cenv:Env}{I:aB}{f:eG}{l:List V}{Ok:Hp→Prop}{ok:Hp→Prop→Prop}{At:Nat→Wd→ag→Prop}{c:Nat}{names:List Str}
  {turn:V→Hp→Ds→(List (den u)→Hp→Ds→Prop)→Prop} {K:List (den u)→Hp→Ds→Prop} {RR:Result→ag→Prop} (hg:gens[d]? =some ⟨t,iter,ifs,0⟩) (h0: ∀g',gens[d+1]? =some g'→g'.is_async=0)
  (w:rC B A I f l Ok W0 At) (hok: ∀hp p,ok hp p→Ok hp∧p) (hfD: ¬f.a D)
  (hturn: ∀{x hp ds k W s va QS E out},turn x hp ds k→cj B n Γ A W cenv hp s→a7 W va x→ku B W s D u out→out.length+c≤sizeLine→tM B W s D u out c k QS→CG B A (.ListComp elt gens scope pos) elt t ifs gens[d+1]? d I D cenv va QS E s)
  (h:iC u turn ok Γ.fr names l hp ds K) (Y:cj B n Γ A W cenv hp s) (U:ku B W s D u out) (hc:out.length+l.length*c≤sizeLine) (at0:At 0 W s) (tr:Tr W0 W)
  (hR: ∀W' s' o hp' ds,K o hp' ds→o.length≤l.length*c→ml B ((eG.one D).or f) W s W' s'→R B W' hp' s'→ku B W' s' D u (out++o)→RR (.ok .next) s'):
  dX (model B.prog B.w) A (.compLoop (.ListComp elt gens scope pos) d (.ref I) (.ref D) cenv) RR s:=by
 refine lW hg h0 (fun m s'=>∃i xs o hp' ds' W',m=xs.length∧l.drop i=xs∧i≤l.length∧o.length≤i*c∧iC u turn ok Γ.fr names xs hp' ds' (fun z hp ds=>K (o++z) hp ds)∧ml B ((eG.one D).or f) W s W' s'∧R B W' hp' s'∧At i W' s'∧ku B W' s' D u (out++o)) ?_ _
  ⟨0,l,[],hp,ds,W,rfl,rfl,a9 _,a9 _,h,.refl ..,Y.relH,at0,(bk out).symm▸U⟩
 refine fun m s' q0 E'=>P8 q0 fun i xs o hp' ds' W' q1=>PH q1 fun hm hd hi0 ho h X Y' at' U'=> ?_
 clear q0 q1
 subst hm
 have tr':=tr.trans X.toTr
 induction xs using aO with
 |nil=>
  have hi:l.length≤i:=List.drop_eq_nil_iff.mp hd
  have k0:=hok _ _ h
  have k1:=k0.1
  have k2:=k0.2
  have e:l[i]? =none:=dY.mpr hi
  refine w.done at' tr' Y' k1 e fun s2 x2 Y2=> ?_
  have k2:K (o++[]) (forget Γ.fr names hp') ds':=k2
  rw[bk]at k2
  have hi:i=l.length:=cK hi0 hi
  refine LW U'.list fun ys m l0=> ?_
  have hl:=l0.1
  have rs:=l0.2
  have pD:=x2.priv U'.priv hfD hl
  exact hR _ _ _ _ _ k2 (hi▸ho) (X.trans (x2.mono .r)) Y2.forget ⟨pD.1,ys,m,pD.2,rs⟩
 |cons x xs=>
  have e:l[i]? =some x:=by rw[←List.head?_drop,hd];rfl
  have hlt:i<l.length:=(au.mp e).1
  have hd2:l.drop (i+1)=xs:=by rw[←List.drop_drop,hd];rfl
  have k0:=hok _ _ h
  have k1:=k0.1
  have k2:=k0.2
  refine w.next at' tr' Y' k1 e fun v s2 W2 rv x2 Y2 kR=>w.letGo kR ?_
  have Xm:((eG.one D).or f).Le ((eG.one D).or f):= .refl _
  have X2:=X.trans (x2.mono (Z:=(eG.one D).or f) .r)
  refine LW U'.list fun ys m l0=> ?_
  have hl:=l0.1
  have rs:=l0.2
  have pD:=x2.priv U'.priv hfD hl
  have U2:ku B W2 s2 D u (out++o):=⟨pD.1,ys,m,pD.2,rs.mono fun M M q=>q.mono x2.F⟩
  have Yr:cj B n Γ A W2 cenv (forget Γ.fr names hp') s2:=⟨Y.room.fr X2.frs,Y.relE.tr X2.toTr,Y2.forget⟩
  have hsz:(out++o).length+c≤sizeLine:=by
   have h1:i*c+c≤l.length*c:=by rw[←Nat.succ_mul];exact dE c hlt
   rw[ak];exact O4 h1 ho hc
  refine AJ (show EO u (turn x (forget Γ.fr names hp')) ds' _ from k2) (T:=fun k=>∀{QS:ag→Prop},tM B W2 s2 D u (out++o) c k QS→CG B A (.ListComp elt gens scope pos) elt t ifs gens[d+1]? d I D cenv v QS E' s2)
   (fun ds k hk QS P=>hturn hk Yr rv U2 hsz P) (fun mono t QS P=>t fun W' s' o hp' ds k=>(mono o hp' ds k).elim fun d' k'=>P W' s' o hp' d' k') fun W3 s3 o3 hp3 ds3 k3 ho3 x3 Y3 U3=> ?_
  refine⟨xs.length,Nat.lt_succ_self _,i+1,xs,o++o3,hp3,ds3,W3,rfl,hd2,hlt,?_,?_,X2.trans (x3.mono .l),Y3,w.keep kR Y2 x3 (fun a ha (z:a=D)=>hfD (z▸ha)) (fun M M=>id) (fun a (z:a=D)=>z▸U3.list.elim fun ys q=>q.elim fun m q=>⟨_,q.1⟩) Y3,aQ .. ▸U3⟩
  ·rw[ak,Nat.succ_mul];exact bV ho ho3
  ·simpa only[aQ]using k3
end
section
variable{B:bW}{G:fS}{C:cG}{r:Ev}{n:Nat}{Γ:Cx}{A:bv}{W W' W0 W1 W2:Wd}{env cenv:Env}{hp hp' hp2:Hp}{s s' s0 s1 s2:ag}{ds:Ds}{E:Value→ag→Prop}{u:Ty}{out:List (den u)}{D:aB}{X Z:eG}
theorem ml.off(x:ml B X W s W1 s1)(y:ml B (X.or Z) W1 s1 W2 s2)(h:Z.Off s):ml B X W s W2 s2 where
 toTr:=x.toTr.trans y.toTr
 frs:=y.frs.trans x.frs
 newO a m:=(y.newO a m).elim (x.newO a) fun q=> .inr (q.elim (fun q=>(Classical.em (X.a a)).elim .inr fun n=> .inl (x.live a n q)) fun q=>q.elim .inr fun z=> .inl (h.a a z))
 newF a o m:=(y.newF a o m).elim (x.newF a o) fun q=> .inr (q.elim (fun q=>(Classical.em (X.a a)).elim .inr fun n=> .inl (x.live a n q)) fun q=>q.elim .inr fun z=> .inl (h.a a z))
 keep a o e h1 h2 hf h3:=y.keep a o (x.keep a o e h1 h2 hf h3) (fun m=>(x.newO a m).elim h1 fun q=>q.elim (fun q=>nomatch e.symm.trans q) h3) h2 (x.frs▸hf) fun q=>q.elim h3 fun z=>nomatch e.symm.trans (h.a a z)
 frk a m h1 h3 o e:=by
  refine(x.frk a m h1 h3 o e).elim fun sl e1=> ?_
  refine(y.frk a (x.frs.symm▸m) (fun h'=>(x.newO a h').elim h1 fun q=>q.elim (fun q=>nomatch e.symm.trans q) h3) (fun q=>q.elim h3 fun z=>nomatch e.symm.trans (h.a a z)) _ e1).elim fun sl' e2=> ?_
  exact⟨sl',e2⟩
 live a n q:=(Classical.em (Z.a a)).elim (h.a a) fun m=>x.live a n (y.live a (fun q=>q.elim n m) q)
 gens g z e n:=y.gens g z (x.gens g z e n) fun q=>q.elim n fun q=>absurd (Array.getElem?_eq_some_iff.mp e).1 (bY.mpr (h.g g q))
theorem ku.le(U:ku B W s D u out)(x:Le B W s W' s'):ku B W' s' D u out:=by
 refine U.list.elim fun ys zz=>zz.elim fun m zz=>zz.elim fun hl rs=> ?_
 have p:=x.priv U.priv hl
 exact⟨p.1,ys,m,p.2,rs.mono fun M M q=>q.mono x.F⟩
theorem tM.after{c:Nat}{k:List (den u)→Hp→Ds→Prop}{QS:ag→Prop}(P:tM B W s D u out c k QS)(x:Le B W s W1 s1):tM B W1 s1 D u out c k QS:=fun W' s' o hp' ds h1 h2 h3=>P W' s' o hp' ds h1 h2 (x.x.trans h3)
theorem hV{e:Expr}(h:j0 e=true)(env:Env)(x:Value):foldedSetIterable e env x=pure x:=by
 induction e using bC with
 |Set=>exact bh h
 |_=>rfl
theorem u1(O:fi B n r){m:Nat}{elt:Expr}{scope:Scope}{pos:Pos}{gens:List cT}{gs:List cT}: ∀{d:Nat} {it:Value} {hp:Hp} {ds:Ds} {k:List (den u)→Hp→Ds→Prop} {W:Wd} {s:ag} {QS:ag→Prop} {E:Value→ag→Prop} {out:List (den u)},gens.drop (d+1)=gs→(∀g∈gs,g.is_async=0)→
  ze r m u elt Γ gs hp ds k→cj B n Γ A W cenv hp s→ku B W s D u out→out.length+m^gs.length≤sizeLine→tM B W s D u out (m^gs.length) k QS→
  ar (model B.prog B.w) A (q9 (.ListComp elt gens scope pos) elt gens[d+1]? d it (.ref D) cenv) (fun f s₅=>f= .again (.compLoop (.ListComp elt gens scope pos) d it (.ref D) cenv)∧QS s₅) E s:=by
 induction gs with
 |nil=>
  intro d it hp ds k W s QS E out hd h0 h Y U hz P
  have e:gens[d+1]? =none:=by rw[←List.head?_drop,hd];rfl
  rw[e]
  refine aa (aa (O.ev h Y fun W1 hp1 s1 v va d1 h1 x1 R1 r1=>zM h1 r1 fun dd h1 rd=> ?_))
  obtain⟨ys,m',hl,rs⟩:=(U.le x1).list
  have pD:=(U.le x1).priv
  have hys:ys.size≤sizeLine:=by rw[←aN,rs.length];exact ad (aG ..) hz
  refine aa (wpAny_list_append_plain ⟨m',hl⟩ (fun h' h1' h2=>h1'.elim fun m2 hl2=> ?_) hys)
  have x:tP D s1 {s1 with heap:=h'}:=SameBut.but (t:=s1.toks) h2 ⟨_,hl2⟩
  exact ao (ao ⟨rfl,P W1 _ [dd] hp1 d1 h1 (av _) (x1.x.trans x.leX) (R1.priv pD x) ⟨pD,_,m2,hl2,by rw[Array.toList_push];exact rs.append (.one rd)⟩⟩)
 |cons g gs ih=>
  intro d it hp ds k W s QS E out hd h0 h Y U hz P
  obtain⟨t,i,ifs,a⟩:=g
  have ha:a=0:=h0 ⟨t,i,ifs,a⟩ (.head _)
  subst ha
  have e:gens[d+1]? =some ⟨t,i,ifs,0⟩:=by rw[←List.head?_drop,hd];rfl
  have hd':gens.drop (d+1+1)=gs:=by rw[←List.drop_drop,hd];rfl
  rw[e]
  show ar _ A (do
   let x ←eval i cenv
   dI i.pos
   let x ←foldedSetIterable i cenv x
   let i ←holding [x] (pyIter x)
   let _ ←runOwn (.compStart (.ListComp elt gens scope pos) (d+1) i (.ref D) cenv) cenv
   again (.compLoop (.ListComp elt gens scope pos) d it (.ref D) cenv)) _ _ _
  refine bp h fun hset h=>aa (O.ev h Y fun W1 hp1 s1 v va d1 h1 x1 R1 r1=>aa (aJ (aa (bq (hV hset cenv va) ?_))))
  refine aa (aU (jZ h1 Y.room.handled R1 r1 fun l ok I s2 h2 it2=> ?_))
  cases it2 with |mk Ok At w hok at0 le rel off alive=> ?_
  refine bp h2 fun hlen h2=>aa (wpAny_runOwn ?_)
  have U1:=U.le x1
  have U2:=U1.le le
  have hlen:l.length≤m:=aq hlen
  have hpow:l.length*m^gs.length≤m^(gs.length+1):=by rw[Nat.pow_succ,Nat.mul_comm (m^gs.length)];exact dE _ hlen
  have hfD: ¬(eG.one I).a D:=fun q=>by
   refine U1.list.elim fun ys zz=>zz.elim fun m' zz=>zz.elim fun hl M=> ?_
   exact nomatch(off.a D q).symm.trans hl
  refine(fun key=>iq e key (w.self at0 key)) ?_
  refine AJ h2 (T:=fun k=>∀{RR:Result→ag→Prop},(∀W' s' o hp' ds,k o hp' ds→o.length≤l.length*m^gs.length→ml B ((eG.one D).or (eG.one I)) W1 s2 W' s'→R B W' hp' s'→ku B W' s' D u (out++o)→RR (.ok .next) s')→
    dX (model B.prog B.w) A (.compLoop (.ListComp elt gens scope pos) (d+1) (.ref I) (.ref D) cenv) RR s2) (fun ds k hk RR hR=> ?_) (fun mono T RR hR=>T fun W' s' o hp' ds hk=>(mono o hp' ds hk).elim fun d' hk'=>hR W' s' o hp' d' hk') fun W' s' o hp' ds hk ho X Y' U'=> ?_
  ·refine tG e (fun g' hg'=>h0 g' (.tail _ (hd'▸List.mem_of_getElem? (i:=0) (by rw[List.getElem?_drop];exact hg')))) w hok hfD (c:=m^gs.length) (fun{x hp ds k W s va QS E out} ht Y rv U hsz P=> ?_) hk ((Y.le x1 R1).le le rel) U2 (ad (bH hpow _) hz) at0 (.refl W1) hR
   ·refine gc ht Y rv fun W1 hp1 s1 h1 x1 R1=>oz O h1 (Y.le x1 R1) fun W2 hp2 s2 c d2 h2 x2 R2=> ?_
    have x12:=x1.trans x2
    induction c using ah with
    |true=>
     rw[if_pos rfl]
     exact ih hd' (fun g m=>h0 g (.tail _ m)) h2 ((Y.le x1 R1).le x2 R2) (U.le x12) hsz (P.after x12)
    |false=>exact P W2 s2 [] hp2 d2 h2 (a9 _) x12.x R2 ((bk out).symm▸U.le x12)
  ·exact ao ⟨rfl,P W' s' o hp' ds hk (ad ho hpow) (x1.x.trans (((Internal.Le.x le).off X off))) Y' U'⟩
end
section
variable{B:bW}{G:fS}{C:cG}{r:Ev}{n:Nat}{Γ:Cx}{A:bv}{W W' W0 W1 W2:Wd}{env cenv:Env}{hp hp' hp2:Hp}{s s' s0 s1 s2:ag}{ds:Ds}{E:Value→ag→Prop}{u:Ty}{out:List (den u)}{D:aB}{X Z:eG}
theorem zi(f:Str×NameKind→List (Str×aB)→Sem (ForInStep (List (Str×aB))))
  (hf: ∀name kind cs,f (name,kind) cs=if kind== .free then(do let a ←cellOf env name;pure (.yield ((name,a)::cs)))else pure (.yield cs)) (hk:jh W env.cells Γ.cells) {names:List (Str×NameKind)}:
  ∀{acc:List (Str×aB)} {ids cl:List (Str×Nat)},eS Γ names ids=some cl→jh W acc ids→∃cla,(forIn names acc f=pure cla)∧jh W cla cl:=by
 induction names with
 |nil=>intro acc ids cl h r;obtain rfl:=af h;exact⟨acc,List.forIn_nil ..,r⟩
 |cons x names ih=>
  intro acc ids cl h r
  obtain⟨x,k⟩:=x
  rw[List.forIn_cons,hf]
  induction k using PySem.NameKind.casesOn with
  |free=>
   refine jD h fun m hn h=> ?_
   obtain⟨a,ha,hr⟩:=hk.lookup hn
   obtain⟨cla,e,r'⟩:=ih (acc:=(x,a)::acc) h (bI.cons ⟨rfl,hr⟩ r)
   have:cellOf env x=pure a:=by unfold cellOf;rw[ha]
   exact⟨cla,by rw[this];exact e,r'⟩
  |_=>exact ih h r
theorem u8(f:Str×NameKind→List (Str×aB)→Sem (ForInStep (List (Str×aB)))){names:List (Str×NameKind)}{cl:List (Str×Nat)}(hk:jh W env.cells Γ.cells)(h:eS Γ names []=some cl)
  (hf: ∀name kind cs,f (name,kind) cs=if kind== .free then(do let a ←cellOf env name;pure (.yield ((name,a)::cs)))else pure (.yield cs)):
  ∃cla,((forIn names [] f>>=fun r=>pure r)=(pure cla:Sem _))∧jh W cla cl:=by
 refine(zi f hf hk h .nil).elim fun cla zz=>zz.elim fun e r=> ?_
 exact⟨cla,by rw[e];rfl,r⟩
theorem jV{scope:Scope}{cl:List (Str×Nat)}(hk:jh W env.cells Γ.cells)(h:eS Γ scope.names []=some cl): ∃cla,closureFor scope env=pure cla∧jh W cla cl:=by
 simp only[closureFor]
 refine u8 _ hk h fun name kind cs=> ?_
 induction q:(kind== .free)using ah with
 |true=>rfl
 |false=>rfl
theorem nk{names:List (Str×NameKind)}: ∀{acc:List (Str×aB)} {ids:List (Str×Nat)} {W:Wd} {hp:Hp} {s:ag},R B W hp s→jh W acc ids→
  ∃W',Le B W s W' {s with heap:=pushCells s.heap names}∧R B W' (hp++(cu names).map fun M=> .cell .unb) {s with heap:=pushCells s.heap names}∧jh W' (cellsFrom s.heap.objs.size names acc) (fI hp.length (cu names) ids):=by
 induction names with
 |nil=>intro acc ids W hp s Y r;exact⟨W,.refl ..,(bk hp).symm▸Y,r⟩
 |cons x names ih=>
  intro acc ids W hp s Y r
  obtain⟨x,k⟩:=x
  induction k using PySem.NameKind.casesOn with
  |cell=>
   have h0:=cc (av s.heap.objs.size)
   have g:dP s {s with heap:=s.heap.push {cls:= .type "cell",data:= .cell none}}:= .push s _ s.toks
   have Y1:=Y.add (o':= .cell .unb) g h0 (A8.mk none (aF _ rfl) (.inl rfl))
   obtain⟨W',x2,Y2,r2⟩:=ih Y1 (bI.cons ⟨rfl,Y.addAt⟩ (r.tr .add):jh _ ((x,s.heap.objs.size)::acc) ((x,hp.length)::ids))
   refine⟨W',(g.leAdd h0).trans x2,?_,?_⟩
   ·rw[aQ]at Y2;exact Y2
   ·rw[dn,ak]at r2;exact r2
  |_=>exact ih Y r
theorem yD{scope:Scope}{globals:aB}{cl:List (Str×aB)}{qual:Str}{outer:Env}{Q:Env→ag→Prop}
  (hQ:Q (newEnv scope s.heap.objs.size globals (cellsFrom (s.heap.objs.size+1) scope.names cl) qual none .none (some outer) cC)
   {s with heap:=pushCells (s.heap.push {cls:= .type "dict",data:= .dict #[]}) scope.names}):
  ar (model B.prog B.w) A (newFunctionEnv scope globals cl [] qual none .none (some outer)) Q E s:=by
 simp only[newFunctionEnv,Option.isSome_some,if_true]
 refine aa (wpAny_alloc ?_)
 refine aa (wpAny_layCells _ (fun name kind cells=>by rcases hkc:kind==NameKind.cell with _|_<;>simp) _ _ _ _ ?_)
 refine aa ?_
 rw[List.forIn_nil]
 refine ao (ao ?_)
 have e:({s with heap:=s.heap.push {cls:= .type "dict",data:= .dict #[]}}:ag).heap.objs.size=s.heap.objs.size+1:=dn ..
 rw[e]
 exact hQ
theorem kU{names:List (Str×NameKind)}{x:Str}{v:V}(h:(gq names).lookup x=some v):v= .unb:=by
 obtain⟨⟨y,k⟩,_,e⟩:=List.mem_filterMap.mp (fG h)
 rcases k with _|_<;>rcases e with _|_<;>rfl
theorem l8{scope:Scope}(ok:pF scope=true):scope.kind= .function∧(∀x∈scope.names,x.2= .local→scope.names.lookup x.1=some .local)∧scope.names.lookup (ae "__classdict__")=none:=by
 unfold pF at ok
 rcases h1:scope.kind== .function with _|_<;>rw[h1]at ok
 ·injection ok
 rcases h2:(scope.names.all fun x=>x.2 != .local||scope.names.lookup x.1==some .local)with _|_<;>rw[h2]at ok
 ·injection ok
 rcases h3:(scope.names.lookup (ae "__classdict__")).isNone with _|_<;>rw[h3]at ok
 ·injection ok
 refine⟨eq_of_beq h1,fun x hx e=> ?_,Option.isNone_iff_eq_none.mp h3⟩
 have:=ay.mp h2 x hx
 rw[e]at this
 simpa using this
theorem rW{scope:Scope}(h:ow B Γ W env):(relabel scope env).names=scope.names.map (jU Γ):=by
 unfold relabel
 refine List.map_congr_left fun p M=> ?_
 obtain⟨x,k⟩:=p
 have e:env.kindOf x=Γ.names.lookup x:=by show env.scope.names.lookup x=_;rw[h.names]
 dsimp only
 rw[h.kind,e]
 unfold jU
 induction k using PySem.NameKind.casesOn with
 |free=>
  induction q:Γ.names.lookup x using aw with
  |none=>rfl
  |some k=>rcases k with _|_<;>rfl
 |_=>rfl
theorem pp{x:Str}{l:List (Str×NameKind)}(h:l.lookup x=none):(l.map (jU Γ)).lookup x=none:=by
 induction l with
 |nil=>rfl
 |cons p l ih=>
  have e:(jU Γ p).1=p.1:=by
   obtain⟨y,k⟩:=p
   unfold jU
   induction k using PySem.NameKind.casesOn with
   |free=>
    dsimp only
    induction q:Γ.names.lookup y using aw with
    |none=>rfl
    |some k=>rcases k with _|_<;>rfl
   |_=>rfl
  rw[cz]at h
  rw[List.map_cons,cz,e]
  rcases c:x==p.1 with _|_<;>rw[c]at h
  ·exact ih h
  ·injection h
theorem EV{scope:Scope}{cells:List (Str×aB)}{cl:List (Str×Nat)}{L:aB}{m:Nat}(ok:pF scope=true)(h:ow B Γ W env)(hc:jh W' cells (fI (m+1) (cu scope.names) cl))(hL:W'.own[m]? =some L):
  ow B (u3 Γ scope m cl) W' (compEnvC scope cells L env):=
 have k:=l8 ok
 ⟨rW h,k.1,h.glob,h.bui,hc,hL,pp k.2.2,h.code⟩
theorem R.insP{a:aB}{o:Obj}(Y:R B W hp s)(p:gp B W a)(e:s.heap.get? a=some o):R B (W.ins a o) hp s:=
 have t:Tr W (W.ins a o):=⟨fun M M e=>e,Fz.le_ins p.F⟩
 Y.step (fun M=>False) (fun M h=>h.elim) (fun a o M e=>e) rfl rfl t.F (fun b o' h=>(Fz.of_ins h).imp id fun(h:b=a∧o'=o)=>⟨h.1▸h.2▸e,h.1▸p.tab⟩) Y.len Y.nodup Y.tab
  (fun n b h=>(Y.off n b h).imp (fun z=>by
   induction q:W.F.ins a o b using aw with
   |none=>exact q
   |some o'=>exact(Fz.of_ins q).elim (fun w=>nomatch w.symm.trans z) fun w=>absurd (c8 h) (w.1▸p.own)) id)
  (fun n b o' h1 h2=>have q:=Y.objs n b o' h1 h2;q.tr t rfl) rfl (fun L m=>Fz.ins_none (Y.frF L m) fun z=>p.frs (z▸m)) (fun M M h=>h.elim) Y.frO
theorem R.addP{a:aB}{o':AO}(Y:R B W hp s)(p:gp B W a)(hO:kM B s.heap (W.add a) a o'):R B (W.add a) (hp++[o']) s:=by
 have at_: ∀{n:Nat} {b},(W.add a).own[n]? =some b→W.own[n]? =some b∧n<hp.length∨n=hp.length∧b=a:=fun{n b} h=>by
  by_cases hm:n<W.own.length
  ·exact .inl ⟨(ba hm).symm.trans h,Y.len▸hm⟩
  ·have q:=Av ((bA (bY.mp hm)).symm.trans h)
   exact .inr ⟨Y.len▸cK (Nat.sub_eq_zero_iff_le.mp q.1) (bY.mp hm),q.2⟩
 refine Y.step (fun M=>False) (fun M h=>h.elim) (fun a o M e=>e) rfl rfl (fun M M e=>e) (fun M M=> .inl) (by rw[Wd.add,ak,ak,Y.len];rfl)
  (List.nodup_append.mpr ⟨Y.nodup,List.pairwise_singleton ..,fun k h b q e=>p.own (az.mp q▸e▸h)⟩) (fun k m=>(cJ.mp m).elim (Y.tab k) fun m=>az.mp m▸p.tab) (fun m b h=> ?_) (fun m b o h1 h2=> ?_) rfl Y.frF (fun M M h=>h.elim) fun m b h1 h2=>(at_ h1).elim (fun z=>by rw[ba z.2];exact Y.frO m b z.1 h2) fun z=>absurd (z.2▸h2) p.frs
 ·exact(at_ h).elim (fun z=>by rw[ba z.2];exact Y.off m b z.1) fun z=> .inl (z.2▸p.F)
 ·refine(at_ h1).elim (fun z=> ?_) fun z=> ?_
  ·rw[ba z.2]at h2
   have q:=Y.objs m b o z.1 h2
   exact q.tr .add rfl
  ·rw[z.1,List.getElem?_concat_length]at h2
   exact af h2▸z.2▸hO
theorem Le.insP{a:aB}{o:Obj}(x:Le B W s W' s')(p:gp B W' a)(h:s.heap.get? a=none):Le B W s (W'.ins a o) s':=
 ⟨x.toTr.trans ⟨fun M M e=>e,Fz.le_ins p.F⟩,x.frs,x.newO,fun b o' q=>(Fz.of_ins q).elim (x.newF b o') fun q=> .inr (q.1▸h),x.keep,x.frk,x.live,x.gens⟩
theorem Le.addP{a:aB}(x:Le B W s W' s')(h:s.heap.get? a=none):Le B W s (W'.add a) s':=
 ⟨x.toTr.trans .add,x.frs,fun b m=>(cJ.mp m).elim (x.newO b) fun m=> .inr (az.mp m▸h),x.newF,x.keep,x.frk,x.live,x.gens⟩
theorem Hf{own:Bool}{l:List (den u)}{K:V→Hp→Prop}{p:Prop}(h:kD own u l hp K)(Y:R B W hp s)(U:ku B W s D u l)(x:Le B W1 s1 W s)(h0:s1.heap.get? D=none)
  (k: ∀v hp' W',K v hp'→a7 W' (.ref D) v→R B W' hp' s→Le B W1 s1 W' s→(∀L,gp B W L→L≠D→gp B W' L)→p):p:=by
 refine U.list.elim fun ys zz=>zz.elim fun m zz=>zz.elim fun hl rs=> ?_
 have hz:ys.size≤bS:=by rw[←aN,rs.length];exact h.1
 induction own using ah with
 |false=>exact k _ _ _ h.2 (.mk D ys m Fz.ins_at hz (rs.mono fun M M q=>q.mono (Fz.le_ins U.priv.F))) (Y.insP U.priv hl) (x.insP U.priv h0) fun L q ne=>⟨q.own,by
   induction e:(W.ins D _).F L using aw with
   |none=>rfl
   |some o=>exact(Fz.of_ins e).elim (fun z=>nomatch z.symm.trans q.F) fun z=>absurd z.1 ne,q.tab,q.frs⟩
 |true=>exact k _ _ _ h.2 (.mk D Y.addAt) (Y.addP (o':= .list u l) U.priv (lZ.mk ys m hl hz rs)) (x.addP h0) fun L q ne=>⟨fun m=>(cJ.mp m).elim q.own fun m=>ne (az.mp m),q.F,q.tab,q.frs⟩
theorem sZ(hp:Hp)(k:Nat): ∀(todo:List V) (seen:List Nat),∃t,km hp k todo seen=seen++t:=by
 induction k with
 |zero=>exact fun M seen=>⟨[],(bk seen).symm⟩
 |succ k ih=>
  intro todo seen
  induction todo using aO with
  |nil=>exact⟨[],(bk seen).symm⟩
  |cons v rest=>
   induction v using V.casesOn with
   |own m=>
    show ∃t,cond (seen.contains m) (km hp k rest seen) (km hp k (DU hp[m]? ++rest) (seen++[m]))=seen++t
    cases seen.contains m
    ·obtain⟨t,e⟩:=ih (DU hp[m]? ++rest) (seen++[m])
     exact⟨m::t,by rw[cond_false,e,aQ];rfl⟩
    ·exact ih rest seen
   |_=>exact ih _ seen
theorem vL(n:Nat): ∀(a m:Nat),m<n→(tS a n)[m]? =some (a+m):=by
 induction n with
 |zero=>exact fun M M h=>absurd h (Nat.not_lt_zero _)
 |succ n ih=>
  intro a m h
  induction m using Nat.casesOn with
  |zero=>rfl
  |succ m=>exact(ih (a+1) m (dN h)).trans (congrArg some (Nat.add_right_comm a 1 m))
theorem vK(n:Nat): ∀a,(tS a n).length=n:=by
 induction n with
 |zero=>exact fun M=>rfl
 |succ n ih=>exact fun a=>congrArg (· +1) (ih _)
theorem F2(n:Nat): ∀a,∀k∈tS a n,k<a+n:=by
 induction n with
 |zero=>exact fun M=>m9
 |succ n ih=>exact fun a k h=>(aX.mp h).elim (fun e=>e▸dF (Nat.succ_pos n)) fun m=>aA (ih (a+1) k m) (aC (Nat.succ_add a n))
theorem sU{n m:Nat}{vs:List V}(h:m<n):(sX hp n vs)[m]? =some m:=by
 unfold sX
 obtain⟨t,e⟩:=sZ hp 400 (vs++(hp.take n).flatMap G2) (tS 0 n)
 rw[e,ba (by rw[vK];exact h),vL n 0 m h,cF]
theorem yl{n m:Nat}{vs:List V}(h:m<n):((sX hp n vs).filter fun k=> !aS k n)[m]? =some m:=by
 unfold sX
 obtain⟨t,e⟩:=sZ hp 400 (vs++(hp.take n).flatMap G2) (tS 0 n)
 have e2:(tS 0 n).filter (fun k=> !aS k n)=tS 0 n:=List.filter_eq_self.mpr fun k m=>by
  have:=F2 n 0 k m
  cases c:aS k n
  ·rfl
  ·exact absurd this (by rw[cF,aV c];exact Nat.lt_irrefl n)
 rw[e,List.filter_append,e2,ba (by rw[vK];exact h),vL n 0 m h,cF]
theorem qI{J:List Nat}{m:Nat}{K:(Nat→Option Nat)→Hp→Prop}{p:Prop}(h:DY J m hp K)(Y:R B W hp s)(k: ∀hp2,K (fun k=>iF k J 0) hp2→(∀n∈J,n<W.own.length)→R B (W.sub J) hp2 s→L5 (fun k=>iF k J 0) W (W.sub J)→p):p:=
 bp h fun nd h=>bO h fun hp2 e h=>bp h fun M h=>
  have hJ: ∀n∈J,n<W.own.length:=fun m h=>Y.len▸(qh e).2.1 m h
  k hp2 h hJ (Y.part e (nU nd)) (m6 hJ)
theorem CU{J:List Nat}{m:Nat}{L:aB}(Y:R B W hp s)(hJ: ∀n∈J,n<W.own.length)(hm:m ∉ J)(hL:W.own[m]? =some L)(hF:W.F L=none)(hf:L ∉ W.frs):gp B (W.sub J) L:=by
 refine⟨fun q=> ?_,hF,Y.tab L (c8 hL),hf⟩
 refine(jq hJ q).elim fun i zz=>zz.elim fun k zz=>zz.elim fun M zz=>zz.elim fun e2 e3=> ?_
 have:=(List.getElem?_inj (au.mp hL).1 Y.nodup).mp (hL.trans e3.symm)
 exact hm (this▸List.mem_of_getElem? e2)
theorem oA{J:List Nat}(hJ: ∀n∈J,n<W.own.length){a:aB}(m:a∈(W.sub J).own):a∈W.own:=by
 refine(jq hJ m).elim fun M zz=>zz.elim fun M zz=>zz.elim fun M zz=>zz.elim fun M e=> ?_
 exact c8 e
theorem LB(k:Nat):L1 (k+1)^(k+1)≤sizeLine:=by
 rw[sizeLine_eq]
 match k with
 |0=>decide
 |1=>decide
 |2=>decide
 |k+3=>show 0^(k+4)≤_;rw[Nat.zero_pow (Nat.succ_pos _)];exact a9 _
theorem q8(O:fi B n r){own:Bool}{elt:Expr}{gs:List cT}{scope:Scope}{pos:Pos}{K:KV}{Q:Value→ag→Prop}{use:Option (Value→Sem Unit)}(h:nh r own u elt gs scope Γ hp ds K)(Y:cj B n Γ A W env hp s)
  (hEnd: ∀D L W' hp' s' v' ds',K v' hp' ds'→a7 W' (.ref D) v'→R B W' hp' s'→Le B W s W' s'→gp B W' L→(∃m,s'.heap.Ns L m)→s.heap.get? L=none→compPost (model B.prog B.w) A E use Q (.ref D) L (.ok .next) s'):
  ar (model B.prog B.w) A (comprehension (.ListComp elt gs scope pos) scope env (firstIterPos gs pos) (newList []) (firstAsync gs) (firstIter gs env) use) Q E s:=by
 induction gs using aO with
 |nil=>exact h.elim
 |cons g gs=>
  refine bp h fun hset h=>bp h fun hall h=>bp h fun ok h=>bO h fun cl hcl h=> ?_
  have hgs: ∀x∈g::gs,x.is_async=0:=fun x hx=>eq_of_beq (ay.mp hall x hx)
  obtain⟨t,i,ifs,a⟩:=g
  have ha:a=0:=hgs ⟨t,i,ifs,a⟩ (.head _)
  subst ha
  refine(l8 ok).elim fun hkind zz=>zz.elim fun hnames M=> ?_
  refine(jV (scope:=scope) Y.relE.cells hcl).elim fun cla zz=>zz.elim fun ecl rcl=> ?_
  refine wpAny_comprehension_free (use:=use) rfl (hV hset env) ecl hkind hnames (O.ev h Y fun W1 hp1 s1 v va d1 h1 x1 R1 r1=>jZ h1 Y.room.handled R1 r1 fun l ok' I s2 h2 it=> ?_)
  cases it with |mk Ok At w hok at0 le rel off alive=> ?_
  refine bp h2 fun hlen h2=> ?_
  have hlen:l.length≤L1 (gs.length+1):=aq hlen
  refine dt ?_ (by size_fits)
  refine yD ?_
  generalize hs3:({s2 with heap:=s2.heap.push {cls:= .type "list",dict:=none,data:= .seq ([]:List Value).toArray}}:ag)=s3
  have hD0:s2.heap.get? s2.heap.objs.size=none:=cc (av _)
  have hD1:s1.heap.get? s2.heap.objs.size=none:=le.live _ hD0
  have g3:dP s2 s3:=hs3▸ .push s2 _ s2.toks
  have Y3:=rel.grow g3
  have pD:=rel.fresh hD0
  have hD3:IsL s3.heap s2.heap.objs.size #[] 0:=hs3▸aF _ rfl
  have hL0:s3.heap.get? s3.heap.objs.size=none:=cc (av _)
  have g4:dP s3 {s3 with heap:=s3.heap.push {cls:= .type "dict",data:= .dict #[]}}:= .push s3 _ s3.toks
  have Y4:=Y3.add (o':= .loc (gq scope.names)) g4 hL0 (jH.mk (fun M=>none) (dq.Ns.new s3.heap (.type "dict")) fun x u e=> .inl (kU e))
  refine(nk (names:=scope.names) Y4 (rcl.tr (x1.toTr.trans .add))).elim fun W5 zz=>zz.elim fun x5 zz=>zz.elim fun Y5 c5=> ?_
  rw[show({s3 with heap:=s3.heap.push {cls:= .type "dict",data:= .dict #[]}}:ag).heap.objs.size=s3.heap.objs.size+1 from dn ..,ak]at c5
  rw[aQ]at Y5
  have le35:=(g4.leAdd (W:=W1) (B:=B) hL0).trans x5
  have le25:=g3.le.trans le35
  have hLat:W5.own[hp1.length]? =some s3.heap.objs.size:=x5.own _ _ Y3.addAt
  have p5:=le35.priv pD hD3
  have nDL:s3.heap.objs.size≠s2.heap.objs.size:=fun e=>nomatch(e▸hL0).symm.trans hD3
  have hfD: ¬(eG.one I).a s2.heap.objs.size:=fun(q:s2.heap.objs.size=I)=>alive.elim fun o e=>nomatch hD0.symm.trans ((congrArg s2.heap.get? q).trans e)
  show dX (model B.prog B.w) A (.compStart (.ListComp elt (⟨t,i,ifs,0⟩::gs) scope pos) 0 (.ref I) (.ref s2.heap.objs.size) (compEnvC scope (cellsFrom (s3.heap.objs.size+1) scope.names cla) s3.heap.objs.size env))
   (compPost (model B.prog B.w) A E use Q (.ref s2.heap.objs.size) s3.heap.objs.size) {s3 with heap:=pushCells (s3.heap.push {cls:= .type "dict",data:= .dict #[]}) scope.names}
  have Yc:cj B n (u3 Γ scope hp1.length cl) A W5 (compEnvC scope (cellsFrom (s3.heap.objs.size+1) scope.names cla) s3.heap.objs.size env) (EW scope hp1) {s3 with heap:=pushCells (s3.heap.push {cls:= .type "dict",data:= .dict #[]}) scope.names}:=
   ⟨Y.room.fr (le25.frs.trans x1.frs),EV ok Y.relE c5 hLat,Y5⟩
  have at5:=w.keep (X:=⟨fun M=>False,fun M=>False⟩) at0 rel le25.x (fun M M=>id) (fun M M=>id) nofun Y5
  have hpow:l.length*L1 (gs.length+1)^gs.length≤sizeLine:=ad (dE _ hlen) (by rw[Nat.mul_comm,←Nat.pow_succ];exact LB _)
  refine(fun key=>iq rfl key (w.self at5 key)) ?_
  refine tG (out:=[]) rfl (fun g' hg'=>hgs g' (.tail _ (List.mem_of_getElem? (i:=0) hg'))) w hok hfD (c:=L1 (gs.length+1)^gs.length) (fun{x hp ds k W s va QS E out} ht Y rv U hsz P=> ?_) h2 Yc ⟨p5.1,#[],0,p5.2,.nil⟩ ((cF _).symm▸hpow) at5 le25.toTr fun W' s' o hp' ds' hK ho X Y' U'=> ?_
  ·refine gc ht Y rv fun W1 hp1 s1 h1 x1 R1=>oz O h1 (Y.le x1 R1) fun W2 hp2 s2 c d2 h2 x2 R2=> ?_
   have x12:=x1.trans x2
   induction c using ah with
   |true=>
    rw[if_pos rfl]
    exact u1 O (d:=0) rfl (fun g m=>hgs g (.tail _ m)) h2 ((Y.le x1 R1).le x2 R2) (U.le x12) hsz (P.after x12)
   |false=>exact P W2 s2 [] hp2 d2 h2 (a9 _) x12.x R2 ((bk out).symm▸U.le x12)
  ·refine ng hK fun lc q hK=>qI hK Y' fun hp2 hK hJ Y2 ren=> ?_
   have hL':=X.toTr.own _ _ hLat
   obtain⟨m,hns,_⟩:jH s'.heap W' s3.heap.objs.size lc:=Y'.objs _ _ _ hL' q
   have le1:Le B W1 s1 W' s':=(le.trans le25).transX X ((eG.off hD1).or off)
   have le2:=le1.part hJ fun m hm=>yl (R1.len▸hm)
   refine U'.list.elim fun ys zz=>zz.elim fun m' zz=>zz.elim fun hl rs=> ?_
   have pL:=CU Y' hJ (fun m=>by simpa using (cf.mp m).2) hL' (Y'.offAt hL' q nofun) ((X.frs.trans le35.frs).symm▸(Y3.fresh hL0).frs)
   refine Hf hK Y2 ⟨U'.priv.less rfl (fun a m=>oA hJ m) rfl,ys,m',hl,rs⟩ le2 hD1 fun v hp3 W3 hK hv Y3' O4 hpv=>hEnd _ _ W3 hp3 s' v ds' hK hv Y3' (x1.trans O4) (hpv _ pL nDL) ⟨m,hns⟩ ?_
   exact(x1.trans (le.trans g3.le)).live _ hL0
end
section
variable{B:bW}{G:fS}{C:cG}{r:Ev}{n:Nat}{Γ:Cx}{A:bv}{W W' W0 W1 W2:Wd}{env cenv:Env}{hp hp' hp2:Hp}{s s' s0 s1 s2:ag}{ds:Ds}{E:Value→ag→Prop}{K:V→Hp→Prop}{Q:Value→ag→Prop}
theorem rg{pos pos':Pos}{v c:Value}: ∀(l:List Value),TriplesOk l→codeAmong pos' (l++[rawInt pos.line,rawInt pos.col,c])=some v→codeAmong pos' l=some v∨v=c:=by
 intro l h e
 fun_induction TriplesOk l with
 |case1=>
  simp only[List.nil_append,codeAmong,rawInt]at e
  split at e
  ·exact .inr (af e).symm
  ·injection e
 |case2 a t b u x rest ih=>
  simp only[List.cons_append,codeAmong]at e ⊢
  split at e
  ·rename_i q;rw[if_pos q];exact .inl e
  ·rename_i q;rw[if_neg q];exact ih h e
 |case3 l h1 h2=>exact h.elim
theorem qd{h h':dq}{c P a:aB}{ps:Array Value}(x:h.TableAt c P ps)(hs:dq.ExtBut a h h')(hc:c≠a)(hP:P≠a):h'.TableAt c P ps:=by
 refine x.elim fun z1z e2=> ?_
 refine z1z.elim fun o zz=>zz.elim fun vs zz=>zz.elim fun e r=> ?_
 exact⟨⟨o,vs,hs _ _ hc e,r⟩,hs _ _ hP e2⟩
theorem R.table(Y:R B W hp s){c P c':aB}{oc:Obj}{ps:Array Value}{pos:Pos}{h':dq}{t:Nat}(hm:(c,P)∈B.ct)(hinj: ∀c c' P,(c,P)∈B.ct→(c',P)∈B.ct→c=c')(ht:s.heap.TableAt c P ps)(htr:TriplesOk ps.toList)
  (hx:dq.ExtBut P s.heap h') (hi:h'.IsCode c P (ps++ #[rawInt pos.line,rawInt pos.col,.ref c'])) (hta:h'.TableAt c P (ps++ #[rawInt pos.line,rawInt pos.col,.ref c'])) (hc':s.heap.get? c'=none) (hoc:h'.get? c'=some oc)
  (hok: ∀F:Fz,F c'=some oc→g5 F (.ref c')):R B (W.ins c' oc) hp {s with heap:=h',toks:=t}∧Le B W s (W.ins c' oc) {s with heap:=h',toks:=t}:=by
 have hPt:P∈B.tabs:=aP.mpr ⟨_,hm,rfl⟩
 obtain⟨_,hPF⟩:=Y.tabAlive hPt
 have d:=Y.dead hc'
 have tr:Tr W (W.ins c' oc):=⟨fun M M e=>e,Fz.le_ins d.2.1⟩
 have keep: ∀a o,a≠P→s.heap.get? a=some o→h'.get? a=some o:=fun a o h e=>hx a o h e
 have kF: ∀{a o},W.F a=some o→h'.get? a=some o:=fun{a o} e=>keep a o (fun z=>nomatch(z▸e:W.F P=some o).symm.trans hPF) (Y.sub a o e)
 have Dv: ∀{a},a∈W.own→a≠P:=fun m z=>Y.tab _ m (z▸hPt)
 have frP: ∀L∈W.frs,L≠P:=fun L m z=>(Y.frs L m).2.1 (z▸hPt)
 refine⟨⟨fun a o e=>(Fz.of_ins e).elim kF fun q=>q.1▸q.2▸hoc,fun a o e h=>tr.F a o (Y.base a o e h),Y.len,Y.nodup,Y.tab,fun m a h=>(Y.off m a h).imp (fun z=> ?_) id,fun m a o h1 h2=> ?_,fun c0 P0 hm0=> ?_,Y.gens,Y.os,fun L m=>⟨(Y.frs L m).1.imp fun o z=>⟨keep L o (frP L m) z.1,z.2⟩,(Y.frs L m).2.1,Fz.ins_none (Y.frF L m) fun z=>(Y.frs L m).1.alive.elim fun M e=>ez e hc' z⟩,Y.frO⟩,
  ⟨tr,rfl,fun M h=> .inl h,fun b M q=>(Fz.of_ins q).imp id fun(h:b=c'∧_)=>h.1▸hc',fun a o e M h M=>keep a o (fun z=>h (z▸hPt)) e,fun L m M=> .of fun o=>keep L o (frP L m),fun a z=> ?_,fun M M e=>e⟩⟩
 ·induction q:W.F.ins c' oc a using aw with
  |none=>exact q
  |some o'=>exact(Fz.of_ins q).elim (fun w=>nomatch w.symm.trans z) fun w=>absurd (c8 h) (w.1▸d.1)
 ·have q:=Y.objs m a o h1 h2
  exact q.tr tr (q.alive.elim fun ob e=>(keep a ob (Dv (c8 h1)) e).trans e.symm)
 ·cases Y.tabs c0 P0 hm0 with |mk ps1 ps0 more h1 h2 h0 e ok off=> ?_
  have hoff:(W.ins c' oc).F P0=none:=by
   induction q:W.F.ins c' oc P0 using aw with
   |none=>exact q
   |some o'=>exact(Fz.of_ins q).elim (fun w=>nomatch w.symm.trans off) fun w=>absurd (aP.mpr ⟨_,hm0,w.1⟩) d.2.2
  by_cases q:P0=P
  ·subst q
   obtain rfl:=hinj _ _ _ hm0 hm
   have:ps1=ps:=by
    have e1:=h2.2.symm.trans ht.2
    simpa using e1
   subst this
   refine .mk _ ps0 (more++ #[rawInt pos.line,rawInt pos.col,.ref c']) hi hta h0 (by rw[e,Array.append_assoc]) (fun p v e=> ?_) hoff
   rw[Array.toList_append]at e
   rcases rg _ htr e with e|rfl
   ·exact(ok p v e).mono tr.F
   ·exact hok _ Fz.ins_at
  ·have hcP:c0≠P:=fun q2=>by
    obtain⟨o,vs,e,hcl,hd,_⟩:=h2.1
    rw[q2,show s.heap.get? P=_ from ht.2]at e;cases e;cases hcl
   exact .mk ps1 ps0 more (h1.extBut hx hcP q) (qd h2 hx hcP q) h0 e (fun p v e=>(ok p v e).mono tr.F) hoff
 ·induction e:s.heap.get? a using aw with
  |none=>rfl
  |some o=>
   by_cases q:a=P
   ·subst q;exact(nomatch(show h'.get? a=_ from hta.2).symm.trans z)
   ·exact(nomatch(keep a o q e).symm.trans z)
theorem lh{name qual:Str}{params:Arguments}{body:FuncBody}{scope:Scope}{pos:Pos}{line:Nat}{tag:Nat}{cl:List (Str×Nat)}(g:GlbOk B G)(hmk:Γ.mks=true)(hf:G.code tag=some ⟨params,body,scope⟩)(hcl:eS Γ scope.names []=some cl)
  (h:K (.own hp.length) (hp++[.fn tag cl none])) (Y:cj B n Γ A W env hp s) (P:dH B W s K Q):
  ar (model B.prog B.w) A (makeTail name qual params body scope env .none .none none pos line) Q E s:=by
 refine(Y.relE.code hmk).elim fun c zz=>zz.elim fun Pa zz=>zz.elim fun hcode hm=> ?_
 refine g.base.bui.elim fun mg zz=>zz.elim fun hmg zz=>zz.elim fun hmt zz=>zz.elim fun M zz=>zz.elim fun M zz=>zz.elim fun M zz=>zz.elim fun M zz=>zz.elim fun M hb=> ?_
 have hPt:Pa∈B.tabs:=aP.mpr ⟨_,hm,rfl⟩
 refine LW (hb Pa hPt) fun bm ob q0=> ?_
 have hbm:=q0.1
 have hne0:=q0.2.1
 have q1:=q0.2.2.2.2
 have hbo:=q1.1
 have hcls:=q1.2.1
 have hdict:=q1.2.2.1
 have hdata:=q1.2.2.2
 have hbt:bm ∉ B.tabs:=fun q=>LW (hb bm q) fun M M e=>e.2.2.2.1 (Value.ref.inj (af (e.1.symm.trans hbm)))
 refine(jV (scope:=scope) Y.relE.cells hcl).elim fun cla zz=>zz.elim fun ecl rcl=> ?_
 have fin: ∀(W1:Wd) (s1:ag) (ctv cv doc:Value) (tk:Nat),R B W1 hp s1→Le B W s W1 s1→g5 W1.F cv→
   Q (.ref s1.heap.objs.size) {s1 with heap:=s1.heap.push {cls:= .type "function",data:= .func {name:=name,qualname:=qual,params:=params,body:=body,scope:=scope,globals:=bb,closure:=cla,closureTuple:=ctv,code:=cv,builtins:=cC,defaults:= .none,kwdefaults:= .none,annotations:=none,pyModule:=(mg "__name__").getD .none,doc:=doc}},toks:=tk}:=by
  intro W1 s1 ctv cv doc tk R1 x1 hok
  have h0:=cc (av s1.heap.objs.size)
  refine(P.after x1).add R1 (.push s1 _ tk) h0 (o:= .fn tag cl none) (L6.mk ⟨params,body,scope⟩ {name:=name,qualname:=qual,params:=params,body:=body,scope:=scope,globals:=bb,closure:=cla,closureTuple:=ctv,code:=cv,builtins:=cC,defaults:= .none,kwdefaults:= .none,annotations:=none,pyModule:=(mg "__name__").getD .none,doc:=doc} none #[] ((g.code tag).symm.trans hf) ⟨rfl,rfl,rfl,rfl,rfl,rfl,rfl⟩ hok (rcl.tr (x1.toTr.trans .add)) (aF _ rfl) rfl) h
 have step: ∀(s1:ag) (ctv:Value),R B W hp s1→Le B W s W s1→ar (model B.prog B.w) A (do
   let cv ←functionCode env pos line name qual params scope body
   let b ←builtinsFor bb env.builtins
   let pm ←nsGet bb "__name__"
   let doc ←match body with
              | .stmts b=>(match docOf b with |some s=>mkText s|none=>pure .none)
              | .expr _=>pure .none
   newObj (.type "function") (.func {name,qualname:=qual,params,body,scope,globals:=bb,closure:=cla,closureTuple:=ctv,code:=cv,builtins:=b,defaults:= .none,kwdefaults:= .none,annotations:=none,pyModule:=pm.getD .none,doc:=doc})) Q E s1:=by
  intro s1 ctv R1 x1
  cases R1.tabs c Pa hm with |mk ps ps0 more hc0 ht0 h00 e0 hr0 hoff=> ?_
  have tail: ∀(W2:Wd) (s2:ag) (cv:Value),R B W2 hp s2→Le B W s W2 s2→g5 W2.F cv→ar (model B.prog B.w) A (do
    let b ←builtinsFor bb env.builtins
    let pm ←nsGet bb "__name__"
    let doc ←match body with
              | .stmts b=>(match docOf b with |some s=>mkText s|none=>pure .none)
              | .expr _=>pure .none
    newObj (.type "function") (.func {name,qualname:=qual,params,body,scope,globals:=bb,closure:=cla,closureTuple:=ctv,code:=cv,builtins:=b,defaults:= .none,kwdefaults:= .none,annotations:=none,pyModule:=pm.getD .none,doc:=doc})) Q E s2:=by
   intro W2 s2 cv R2 x2 hok
   have hg2:s2.heap.Ns bb mg:=R2.oldNs hmg hmt
   refine aa (wpAny_builtinsFor hg2 hbm hne0 (R2.old hbo hbt) hcls hdict hdata ?_)
   refine aa (wpAny_nsGet hg2 ?_)
   induction body using PySem.FuncBody.casesOn with
   |expr e=>exact aa (ao (dt (fin W2 s2 ctv cv .none s2.toks R2 x2 hok) (by size_fits)))
   |stmts b=>
    induction hdoc:docOf b using aw with
    |none=>simp only[hdoc];exact aa (ao (dt (fin W2 s2 ctv cv .none s2.toks R2 x2 hok) (by size_fits)))
    |some t=>simp only[hdoc];exact aa (wpAny_mkText (dt (fin W2 s2 ctv cv _ _ R2 x2 hok) (by size_fits)))
  induction hq:codeAmong pos ps.toList using aw with
  |some v=>exact aa (wpAny_codeAt_hit hcode hc0 hq (tail W s1 v R1 x1 (hr0 pos v hq)))
  |none=>
   have htr:TriplesOk ps.toList:=P8 hc0 fun M M M M M M h=>LW h fun M M h=>LW h fun M M h=>h.2.2.2.2.2.2.2.2.2.1
   refine aa (wpAny_functionCodeX hcode hc0 ht0 hq fun c' h' tk hx hge hlt hi hrec hta hnew=> ?_)
   refine hnew.elim fun P' zz=>zz.elim fun M zz=>zz.elim fun M zz=>zz.elim fun z1z M=> ?_
   refine z1z.elim fun o zz=>zz.elim fun vs zz=>zz.elim fun e1 zz=>zz.elim fun e2 zz=>zz.elim fun e3 M=> ?_
   obtain⟨c2,o2,vs2,t,f1,f2,f3,f4⟩:=hrec
   cases f1
   cases e1.symm.trans f2
   cases e3.symm.trans f3
   have z:=R1.table (t:=tk) hm g.base.inj ht0 htr hx hi hta (cc hge) e1 fun F hF=> .mk c' o vs t qual hF e3 f4
   exact tail _ _ _ z.1 (x1.trans z.2) (.mk c' o vs t qual Fz.ins_at e3 f4)
 unfold makeTail
 rw[ecl,Y.relE.glob]
 refine aa (ao ?_)
 induction hcc:cla.isEmpty using ah with
 |true=>
  refine KL rfl ?_
  refine aa (ao ?_)
  exact step s .none Y.relH (.refl ..)
 |false=>
  refine IV (by simp) ?_
  refine aa (wpAny_newTextTuple ?_)
  have gr:dP s {s with heap:=s.heap.push {cls:= .type "tuple",data:= .seq ((cla.mergeSort fun a b=>a.1.cps.toList≤b.1.cps.toList).map (Value.ref ·.2)).toArray}}:= .push s _ s.toks
  exact step _ _ (Y.relH.grow gr) gr.le
theorem ja{name qual:Str}{params:Arguments}{body:FuncBody}{scope:Scope}{env:Env}{pos:Pos}{line:Nat}:
  makeFunction name qual params body scope env [] [] [] pos line=makeTail name qual params body scope env .none .none none pos line:=by
 rw[makeFunction_eq]
 simp only[List.zip_nil_right,List.filterMap_nil,List.isEmpty_nil,if_true,pure_bind]
theorem ie{α:Type}{l:List α}(h:iG l=true):l=[]:=by cases l with |nil=>rfl|cons _ _=>injection h
theorem uD{args:Arguments}{body:Expr}{scope:Scope}{pos:Pos}{tag:Nat}{cl:List (Str×Nat)}(g:GlbOk B G)(hmk:Γ.mks=true)(hf:G.code tag=some ⟨args,.expr body,scope⟩)(hd:args.defaults=[])(hkd:args.kw_defaults=[])(hcl:eS Γ scope.names []=some cl)
  (h:K (.own hp.length) (hp++[.fn tag cl none])) (Y:cj B n Γ A W env hp s) (P:dH B W s K Q):
  ar (model B.prog B.w) A (eval (.Lambda args body scope pos) env) Q E s:=by
 refine kla_eval (by rw[defaultsOf_eq,hd,hkd];rfl) ?_
 rw[ja]
 exact lh g hmk hf hcl h Y P
end
section
variable{B:bW}{G:fS}{C:cG}{r:Ev}{n:Nat}{Γ:Cx}{A:bv}{W W' W0 W1 W2:Wd}{env cenv:Env}{hp hp' hp2:Hp}{s s' s0 s1 s2:ag}{ds:Ds}{E:Value→ag→Prop}{K:KV}{Q:Value→ag→Prop}
theorem mh{o:Expr}(h:gf o=true)(name:Str)(env:Env)(t:Sem Value):attributeBase o name env t=t:=by
 induction o using bC with
 |Call f as ks p=>induction f using bC with
  |Name x q=>induction as using aO with
   |nil=>induction ks using aO with
    |nil=>exact nomatch h
    |cons=>rfl
   |cons=>rfl
  |_=>rfl
 |_=>rfl
theorem mf{e:Expr}(h:j0 e=true)(op:CmpOp):behindInMarks op e=false:=by
 induction e using bC with
 |Set=>exact bh h
 |_=>rfl
theorem g7: ∀(ops:List CmpOp) (rs:List Expr) (env:Env),rs.all j0=true→markedEach ops rs (evalEach rs env)=evalEach rs env
 |[],_,_,_=>by unfold markedEach;rfl
 |[op],[],_,_=>rfl
 |[op],[r],env,h=>by
  simp only[List.all_cons,List.all_nil,Bool.and_true]at h
  show [markedBehindIn op r (eval r env)]=[eval r env]
  rw[markedBehindIn_of_false (mf h op)]
 |[op],r::r'::rs,env,h=>by
  simp only[List.all_cons,cL]at h
  show eval r env::markedEach [] (r'::rs) (evalEach (r'::rs) env)=_
  rw[g7 [] (r'::rs) env (by simp[h.2.1,h.2.2])]
  rfl
 |op::op'::ops,[],_,_=>rfl
 |op::op'::ops,r::rs,env,h=>by
  simp only[List.all_cons,cL]at h
  show eval r env::markedEach (op'::ops) rs (evalEach rs env)=_
  rw[g7 (op'::ops) rs env h.2]
  rfl
theorem ny{K:V→Hp→Prop}{c:Const}{k:Nat}{p:Pos}(h:fN (zd c) fun v=>K v hp)(Y:R B W hp s)(P:dH B W s K Q):ar (model B.prog B.w) A (eval (.Constant c k p) env) Q E s:=by
 cases c with
 |none=>exact wpAny_Constant_none (P.here Y h rfl)
 |bool b=>exact wpAny_Constant_bool (P.here Y h rfl)
 |int i=>exact wpAny_Constant_int (P.toks Y h (.mk _))
 |str x=>
  refine bO h fun v hv h=> ?_
  obtain⟨hz,hv⟩:=fq hv
  cases hv
  exact Calls.Constant_str (P.toks Y h (show eJ x.cps.toList (.str x s.toks)from .mk s.toks (aq hz)))
 |_=>exact h.elim
theorem BO{a i:V}{va:Value}{K:V→Prop}(Y:R B W hp s)(ra:a7 W va a)(h:KS a i hp K):zA s va:=by
 refine dA (C:=fun M=>zA s va) h fun i h=> ?_
 cases a with
 |str x=>exact eJ.elim ra fun t M=> .mk "str" _ (typeIs_str s _ t) F.slot_str_getitem.lookup
 |tc a b=>exact Y.tup ra fun x its m ho M M=> .mk "tuple" _ ⟨_,ho,rfl⟩ F.slot_tuple_getitem.lookup
 |lst t l=>exact(Y.lis ra).elim fun a its m hl M M=> .mk "list" _ ⟨_,hl,rfl⟩ list_getitem_lookup
 |own m=>
  have h:KU i K hp[m]? :=h
  cases q:hp[m]? with
  |none=>rw[q]at h;exact h.elim
  |some o=>
   rw[q]at h
   refine Y.own ra q fun a hn ro=> ?_
   cases o with
   |list t l=>exact(lZ.lis ro).elim (C:=fun va=>zA s va) fun a its m hl M M=> .mk "list" _ ⟨_,hl,rfl⟩ list_getitem_lookup
   |_=>exact h.elim
 |_=>exact h.elim
theorem t9{own:Bool}{a l u:V}{va vl vu:Value}{K:V→Hp→Prop}(h:C5 own a l u hp K)(Y:R B W hp s)(ra:a7 W va a)(rl:a7 W vl l)(ru:a7 W vu u)(P:dH B W s K Q):
  zA {s with heap:=s.heap.push {cls:= .type "slice",data:= .fields #[vl,vu,.none]}} va∧
   ar (model B.prog B.w) A (getItem va (.ref s.heap.objs.size)) Q E {s with heap:=s.heap.push {cls:= .type "slice",data:= .fields #[vl,vu,.none]}}:=by
 have list:(kj hp a fun t x=>rj x.length l u fun i j=>kD own t (jG x i j) hp K)→zA {s with heap:=s.heap.push {cls:= .type "slice",data:= .fields #[vl,vu,.none]}} va∧ar (model B.prog B.w) A (getItem va (.ref s.heap.objs.size)) Q E {s with heap:=s.heap.push {cls:= .type "slice",data:= .fields #[vl,vu,.none]}}:=fun h=>kT Y ra h fun t x h ra=>by
   obtain⟨b,items,lo,hi',rfl,hl,hz,pl,pu,hQ⟩:=uc h Y ra rl ru P
   refine⟨.mk "list" _ (hl.push _).typeIs list_getitem_lookup,wpAny_getItem_list_slice (hl.push _) (dq.IsSliceOf.new ..) pl pu .none (by simp) ?_ hz⟩
   rw[dn]
   exact hQ
 cases a with
 |str x=>
  obtain⟨y,t,l',u',rfl,e1,e2,hm⟩:=ub h Y ra rl ru P
  refine⟨.mk "str" _ (typeIs_str _ _ t) F.slot_str_getitem.lookup,wpAny_getItem_str_slice (st:=none) ?_ rfl hm⟩
  refine⟨_,aF _ rfl,rfl,?_⟩
  rw[e1,e2];rfl
 |_=>exact list h
theorem fm{o:Expr}{name:Str}{apos pos:Pos}{args:List Expr}{jS:List Keyword}(hs:gf o=true)
  (hl:apos.endLine=pos.line) (hn:args.length+jS.length<29) (ha:cQ args=true) (hk:gM jS=true)
  (h:ar (model B.prog B.w) A (eval o env) (fun ov s₁=>ar (model B.prog B.w) A (getMethod ov name (do return(←importBound o env).getD true)) (fun fx s₂=>ar (model B.prog B.w) A (callWith pos fx.1 fx.2 (backTo pos (starEach args env)) (backToKw pos (keywordEach jS env))) Q E s₂) E s₁) E s):
  ar (model B.prog B.w) A (eval (.Call (.Attribute o name apos) args jS pos) env) Q E s:=by
 have hform:methodCallForm (args.length+jS.length) (backTo pos (starEach args env)) (backToKw pos (keywordEach jS env))=true:=by
  unfold methodCallForm
  rw[(yP hk).all,Bool.and_true,cL]
  refine⟨ay.mpr fun t ht=>by rw[eY ha t ht];rfl,?_⟩
  rw[decide_eq_true_iff]
  split<;>omega
 have hpos:methodCallPos true o env apos pos=pure pos:=by unfold methodCallPos;simp[hl]
 rw[arm_eval_Call,mh hs]
 refine aa (bF h (fun ov s₁ h₁=>aa (aJ ?_)) fun M M e=>e)
 unfold methodCall
 rw[hform]
 refine aa (aU ?_)
 exact bF h₁ (fun fx s₂ h₂=>aa (bq hpos h₂)) fun M M e=>e
theorem kh(O:fi B n r){p:Pos}{args:List Expr}{ks:List Keyword}{f:Value}{first:List Value}{K':List V→List (Str×V)→Hp→Ds→Prop}(ha:cQ args=true)(hk:gM ks=true)
  (h:FO r args Γ hp ds fun vs hp ds=>jS r ks Γ hp ds fun kw hp ds=>K' vs kw hp ds) (Y:cj B n Γ A W env hp s)
  (k: ∀W' hp' s' ds vs kw bw kwv,K' vs kw hp' ds→Le B W s W' s'→R B W' hp' s'→dD W' bw vs→kwv.map (·.1)=kw.map (·.1)→dD W' (kwv.map (·.2)) (kw.map (·.2))→(∀z:List (Option Str×Sem Value),z.length=ks.length→z.length=kw.length)→(∀z:List (Option Str×Sem Value),z.length=kw.length→lJ s' f z)∧ar (model B.prog B.w) A (call f (first++bw) kwv) Q E s'):
  ar (model B.prog B.w) A (callWith p f first (backTo p (starEach args env)) (backToKw p (keywordEach ks env))) Q E s:=by
 have z:=yP (p:=p) (env:=env) hk
 refine fC (eY ha) z.all (lQ O ha h Y fun W2 hp2 s2 l vs d2 h2 x2 R2 r2=>BI O hk h2 (Y.le x2 R2) fun W3 hp3 s3 kw vk d3 h3 x3 R3 e3 r3=> ?_)
 have el:=r3.length
 rw[aE]at el
 have e4:(ks.filterMap (·.arg)).length=kw.length:=by rw[e3,aE]
 have e5:ks.length=kw.length:=z.len2.symm.trans e4
 have c:=k W3 hp3 s3 d3 l kw vs ((ks.filterMap (·.arg)).zip vk) h3 (x2.trans x3) R3 (r2.tr x3.toTr) (by rw[List.map_fst_zip (by omega)];exact e3) (by rw[List.map_snd_zip (by omega)];exact r3) fun y hy=>hy.trans e5
 exact⟨c.1 _ (z.len.trans e5),z.names▸c.2⟩
theorem Gd{vs:List Value}{l:List V}{va:Value}(q:eD "tuple" W.F (fun x=>fJ W x (rN l)) va):a7 W va (rN l):=by
 cases l with
 |nil=>exact q
 |cons a l=>exact q
theorem ji.tr{c:fK}{va f:Value}{first:List Value}(x:Tr W W')(h:ji B W s c va f first):ji B W' s' c va f first:=by
 cases c with
 |fn u us=>exact⟨h.1.tr x,h.2.tr x⟩
 |meth id=>exact h
 |pat ok=>exact h
theorem lO{α:Type}{o:Option α}(h:o.isNone=true):o=none:=Option.isNone_iff_eq_none.mp h
theorem yi{C:Expr→Prop}{X:Option Expr→Option Expr→Option Expr→Prop}{Y:Expr→Prop}{i:Expr}(h:zY i X Y)(k1: ∀l u st q,X l u st→C (.Slice l u st q))(k2: ∀i,Y i→C i):C i:=by
 induction i using bC with
 |Slice l u st q=>exact k1 _ _ _ _ h
 |_=>exact k2 _ h
theorem lR{C:Expr→Prop}{X:Expr→Str→Pos→Prop}{Y:Expr→Prop}{f:Expr}(h:rq f X Y)(k1: ∀o n p,X o n p→C (.Attribute o n p))(k2: ∀f,uF f=false→Y f→C f):C f:=by
 induction f using bC with
 |Attribute o n p=>exact k1 _ _ _ h
 |_=>exact k2 _ rfl h
theorem mR{f:Expr}{args:List Expr}{kw:List Keyword}{p:Pos}{Q:Value→ag→Prop}(hf:uF f=false)(h:ar (model B.prog B.w) A (do callWith p (←eval f env) [] (backTo p (starEach args env)) (backToKw p (keywordEach kw env))) Q E s):ar (model B.prog B.w) A (eval (.Call f args kw p) env) Q E s:=by
 induction f using bC with
 |Attribute o n p=>exact nomatch hf
 |_=>exact h
theorem DG(g:GlbOk B G){x:Str}{v:V}{p:Pos}{Q:Value→ag→Prop}(hv:jd x (lg G Γ hp x)=some v)(YE:ow B Γ W env)(Y:R B W hp s)(hQ: ∀va,a7 W va v→Q va s):ar (model B.prog B.w) A (eval (.Name x p) env) Q E s:=by
 have e:eval (.Name x p) env=(do
  dI p
  if x==("__debug__":Str)then debugConstant else loadName env x):=rfl
 rw[e]
 cases hx:x==ae "__debug__"
 ·unfold jd at hv
  rw[hx]at hv
  exact aa (aJ (oS g hv YE Y hQ))
 ·unfold jd at hv
  rw[hx]at hv
  cases hv
  exact aa (aJ (aa (wpAny_rule (ao (hQ _ rfl)))))
theorem oT(g:GlbOk B G){x:Str}{p:Pos}{K:V→Hp→Prop}{Q:Value→ag→Prop}(h:fN (jd x (lg G Γ hp x)) fun v=>K v hp)(Y:cj B n Γ A W env hp s)(P:dH B W s K Q):ar (model B.prog B.w) A (eval (.Name x p) env) Q E s:=by
 exact bO h fun v hv h=>DG g hv Y.relE Y.relH fun va rv=>P.here Y.relH h rv
theorem zP{l:List Value}{vs:List V}{K:V→Hp→Prop}{Q:Value→ag→Prop}(Y:R B W hp s)(r:dD W l vs)(hz:bz vs.length bS=true)(h:K (rN vs) hp)(P:dH B W s K Q):Q (.ref s.heap.objs.size) {s with heap:=s.heap.push {cls:= .type "tuple",data:= .seq l.toArray}}:=by
 have h0:=cc (av s.heap.objs.size)
 refine P.ins Y (.push s _ s.toks) h0 (aF _ rfl) h (Gd (vs:=l) (.mk _ l.toArray 0 Fz.ins_at (by rw[cA];exact r.length▸aq hz) ?_))
 exact(V2.mono (JD (r:=Y) h0) (rN vs)).2 (fJ.of r)
theorem wW(O:fi B n r){es:List Expr}: ∀{acc:Str} {hp:Hp} {ds:Ds} {K:KV} {W:Wd} {s:ag} {Q:Value→ag→Prop},acc.cps.toList.length≤bS→wY r es acc.cps.toList Γ hp ds K→cj B n Γ A W env hp s→iw B W s K Q→
  Joins (model B.prog B.w) A E (evalEach es env) acc (fun out s₁=>out.length≤sizeLine∧Q (.str out s₁.toks) {s₁ with toks:=s₁.toks+1}) s:=by
 induction es with
 |nil=>
  intro acc hp ds K W s Q hz h Y P
  exact⟨eO (ad (aC aN.symm) hz),(P.at ds).toks Y.relH (show K (.str acc.cps.toList) hp ds from h) (show eJ acc.cps.toList (.str acc s.toks)from .mk _ hz)⟩
 |cons e es ih=>
  intro acc hp ds K W s Q hz h Y P
  have go: ∀{hp1:Hp} {d1:Ds} {W1:Wd} {s1:ag} {k:Nat} {y:List Nat},(acc.cps.toList++y).length≤bS∧wY r es (acc.cps.toList++y) Γ hp1 d1 K→Le B W s W1 s1→R B W1 hp1 s1→(acc++⟨y.toArray⟩:Str).length≤sizeLine∧Joins (model B.prog B.w) A E (evalEach es env) (acc++⟨y.toArray⟩) (fun out s₁=>out.length≤sizeLine∧Q (.str out s₁.toks) {s₁ with toks:=s₁.toks+1}) {s1 with toks:=k}:=fun{hp1 d1 W1 s1 k y} h1 x1 R1=>by
   have e1:(acc++⟨y.toArray⟩:Str).cps.toList=acc.cps.toList++y:=by rw[Str.cps_append,Array.toList_append]
   have x1':=x1.trans (dP.toks s1 k).le
   exact⟨eO (ad (aC aN.symm) (e1▸h1.1)),ih (e1▸h1.1) (e1▸h1.2) (Y.le x1' R1.toks) (P.after x1')⟩
  induction e using bC with
  |FormattedValue v c sp p=>
   refine bp h fun hc h=>bp h fun hs h=> ?_
   obtain rfl:=eq_of_beq hc
   obtain rfl:=lO hs
   refine wpAny_FormattedValue_s (O.ev h Y fun W1 hp1 s1 u va d1 h1 x1 R1 r1=>fj (C:=fun u=>a7 W1 va u→_) h1 (fun y h1 r1=> ?_) r1)
   obtain⟨t,rfl⟩: ∃t,va= .str ⟨y.toArray⟩ t:=eJ.elim (C:=fun va=>∃t,va= .str ⟨y.toArray⟩ t) r1 fun t hz=>⟨t,rfl⟩
   have hy:(⟨y.toArray⟩:Str).length≤sizeLine:=eO (ad (ad (aC cA) (by rw[ak];exact c9 ..)) h1.1)
   exact SB.convS_str (fun t' k=>SB.field_str (fun t'' k'=>⟨_,_,rfl,go (s1:=s1) (k:=k') h1 x1 R1⟩) hy) hy
  |Constant c k p=>
   induction c using Const.casesOn with
   |str y=>exact Constant_str ⟨y,s.toks,rfl,go (y:=y.cps.toList) h (.refl ..) Y.relH⟩
   |_=>exact h.elim
  |_=>exact h.elim
theorem v5(g:GlbI B G)(O:fi B (n+1) r)(Co:gz B C n){e:Expr}(h:CZ G C r e Γ hp ds K)(Y:cj B (n+1) Γ A W env hp s)(P:iw B W s K Q):ar (model B.prog B.w) A (eval e env) Q E s:=by
 induction e using bC with
 |Constant c k p=>exact ny (K:=fun v hp=>K v hp ds) h Y.relH (P.at ds)
 |Name x p=>exact oT (K:=fun v hp=>K v hp ds) g.toGlbOk h Y (P.at ds)
 |BinOp l op x p=>exact wpAny_BinOp (O.ev h Y fun W1 hp1 s1 a va d1 h1 x1 R1 r1=>O.ev h1 (Y.le x1 R1) fun W2 hp2 s2 b vb d2 h2 x2 R2 r2=>zp h2 R2 (r1.tr x2.toTr) r2 (((P.after x1).after x2).at d2))
 |UnaryOp op x p=>exact wpAny_UnaryOp (O.ev h Y fun W1 hp1 s1 a va d1 h1 x1 R1 r1=>Bc h1 R1 r1 ((P.after x1).at d1))
 |IfExp t b o p=>
  refine wpAny_IfExp (O.ts h Y fun W1 hp1 s1 c d1 h1 x1 R1=> ?_)
  obtain⟨d,h1⟩:=nD h1
  cases c with
  |true=>exact O.ev h1 (Y.le x1 R1) (P.after x1)
  |false=>exact O.ev h1 (Y.le x1 R1) (P.after x1)
 |BoolOp op es p=>
  refine bp h fun ho h2=> ?_
  obtain rfl:op= .And:=by cases op with |And=>rfl|Or=>exact nomatch ho
  refine nJ (C:=fun es=>ar (model B.prog B.w) A (eval (.BoolOp .And es p) env) Q E s) h2 fun x y h=> ?_
  refine BoolOp_and (O.ev h Y fun W1 hp1 s1 a va d1 h1 x1 R1 r1=>nH (C:=fun a=>a7 W1 va a→ar (model B.prog B.w) A (truthy va) _ E s1) h1 (fun b h1 r1=> ?_) r1)
  obtain rfl:va= .bool b:=r1
  obtain⟨d,h1⟩:=nD h1
  refine wpAny_truthy_bool ?_
  cases b with
  |true=>exact BoolOp_one (O.ev h1 (Y.le x1 R1) (P.after x1))
  |false=>exact P _ _ _ _ _ _ h1 x1 R1 rfl
 |JoinedStr es p=>
  refine bp h fun hl h=> ?_
  induction es using aO with
  |nil=>exact nomatch hl
  |cons a es=>induction es using aO with
   |nil=>exact nomatch hl
   |cons b es=>exact wpAny_JoinedStr (wW O (acc:=Str.empty) (a9 _) h Y P)
 |Tuple es k p=>
  exact bp h fun ha h=>wpAny_Tuple (lQ O ha h Y fun W1 hp1 s1 l vs d1 h1 x1 R1 r1=>bp h1 fun hz h1=>⟨eO (r1.length▸aq hz),zP (K:=fun v hp=>K v hp d1) R1 r1 hz h1 ((P.after x1).at d1)⟩)
 |List es p=>
  exact bp h fun ha h=>wpAny_List (lQ O ha h Y fun W1 hp1 s1 l vs d1 h1 x1 R1 r1=>CD r1 h1 fun l h1 rs=>
   ⟨by rw[rs.length];exact eO h1.1,j6 (n:=0) (tk:=s1.toks) h1 R1 rs ((P.after x1).at d1)⟩)
 |Compare l ops rs p=>
  exact eA (C:=fun rs=>ar (model B.prog B.w) A (eval (.Compare l ops rs p) env) Q E s) h fun x h=>eA (C:=fun ops=>ar (model B.prog B.w) A (eval (.Compare l ops [x] p) env) Q E s) h fun op h=>bp h fun hx h=>wpAny_Compare1 (O.ev h Y fun W1 hp1 s1 a va d1 h1 x1 R1 r1=>O.ev h1 (Y.le x1 R1) fun W2 hp2 s2 b vb d2 h2 x2 R2 r2=>je h2 R2 (r1.tr x2.toTr) r2 (by have:=Y.room.units;lia) fun c h3=>(((P.after x1).after x2).at d2).here R2 h3 rfl) (mf hx op)
 |Attribute o name p=>
  have e:eval (.Attribute o name p) env=(do
   let o' ←attributeBase o name env (eval o env)
   dI p.atName
   let r ←holding [o'] (getAttr o' name true)
   letTemporaryGo o o' r
   pure r):=rfl
  refine bp h fun hs h=> ?_
  rw[e,mh hs]
  exact aa (O.ev h Y fun W1 hp1 s1 a va d1 h1 x1 R1 r1=>aa (aJ (aa (aU (pb g.toGlbA (K:=fun u hp=>K u hp d1) h1 R1 r1 fun W2 hp2 s2 v vv h2 x2 R2 r2=>aa (wpAny_letTemporaryGo (ao ((P.after x1) _ _ _ _ _ _ h2 x2 R2 r2))))))))
 |Subscript o i p=>
  refine yi (C:=fun i=>ar (model B.prog B.w) A (eval (.Subscript o i p) env) Q E s) h (fun l u st q h=> ?_) fun i h=>l3 (O.ev h Y fun W1 hp1 s1 a va d1 h1 x1 R1 r1=>O.ev h1 (Y.le x1 R1) fun W2 hp2 s2 b vb d2 h2 x2 R2 r2=>⟨BO R2 (r1.tr x2.toTr) h2,yX h2 R2 (r1.tr x2.toTr) r2 fun t v va k rv=>(((P.after x1).after x2).at d2).toks R2 k rv⟩)
  refine bp h fun hst h=> ?_
  obtain rfl:=lO hst
  refine l3 (O.ev h Y fun W1 hp1 s1 a va d1 h1 x1 R1 r1=>wpAny_Slice (tD O h1 (Y.le x1 R1) fun W2 hp2 s2 lv vl d2 h2 x2 R2 r2=>tD O h2 ((Y.le x1 R1).le x2 R2) fun W3 hp3 s3 uv vu d3 h3 x3 R3 r3=> ?_))
  rw[evalPart_none]
  exact ao (t9 h3 R3 ((r1.tr x2.toTr).tr x3.toTr) (r2.tr x3.toTr) r3 ((((P.after x1).after x2).after x3).at d3))
 |Call f args kw p=>
  refine bp h fun ha h=>bp h fun hk h=>lR (C:=fun f=>ar (model B.prog B.w) A (eval (.Call f args kw p) env) Q E s) h (fun o name ap h=> ?_) fun f hf h=> ?_
  ·refine bp h fun hs h=>bp h fun hl h=>bp h fun hn h=> ?_
   refine fm hs (eq_of_beq hl) (aq hn) ha hk (O.ev h Y fun W1 hp1 s1 v vf d1 h1 x1 R1 r1=>bO h1 fun c hc h1=>gi g.toGlbA hc R1 r1 fun f first s2 g2 R2 hf=> ?_)
   refine kh O ha hk h1 ((Y.le x1 R1).le g2.le R2) fun W3 hp3 s3 d3 vs kw' bw kwv h3 x3 R3 r3 e1 r4 M=>vt g Co h3 (Y.room.fr (x3.frs.trans x1.frs)) R3 (ji.tr x3.toTr hf) ((r1.tr x3.toTr)) r3 e1 r4 (((P.after x1).after g2.le).after x3)
  ·refine mR hf (aa (O.ev h Y fun W1 hp1 s1 v vf d1 h1 x1 R1 r1=>kh O ha hk h1 (Y.le x1 R1) fun W2 hp2 s2 d2 vs kw' bw kwv h2 x2 R2 r2 e1 r3 M=>o7 g Co h2 (Y.room.fr (x2.frs.trans x1.frs)) R2 (r1.tr x2.toTr) r2 e1 r3 ((P.after x1).after x2)))
 |ListComp elt gs scope p=>
  refine nv h (T:=fun K=>∀{Q:Value→ag→Prop},iw B W s K Q→ar (model B.prog B.w) A (eval (.ListComp elt gs scope p) env) Q E s) (fun ds K h Q P=> ?_) (fun mono T Q P=>T fun W' hp' s' v va d k=>(mono v hp' d k).elim fun d' k'=>P W' hp' s' v va d' k') P
  rw[eval_ListComp]
  refine q8 O h Y fun D L W' hp' s' v' d k rv R' x pL hL h0=>hL.elim fun m hm=>⟨m,hm,fun h' hs=> ?_⟩
  have gx:zJ L s' {s' with heap:=h'}:=⟨fun b o hb e=>(hs.2 b hb).trans e,rfl,rfl⟩
  exact P W' hp' _ v' _ d k (x.transX gx.leX (eG.off h0)) (R'.gone pL gx) rv
 |Lambda args body scope p=>
  exact bO h fun tag ht h=>bO h fun cl hcl h=>bp h.2 fun hmk h2=>bp h2 fun hd h2=>bp h2 fun hkd h2=>uD g.toGlbOk hmk h.1 (ie hd) (ie hkd) hcl (K:=fun v hp=>K v hp ds) h2 Y (P.at ds)
 |_=>exact h.elim
theorem jo(O:fi B n r){e:Expr}{K:Bool→Hp→Ds→Prop}{Q:Bool→ag→Prop}(h:vX r e Γ hp ds K)(Y:cj B n Γ A W env hp s)(P:mj B W s K Q)
  (he:isTrue e env (eval e env)=(do
   let v ←eval e env
   dI e.pos
   holding [v] (truthy v))):ar (model B.prog B.w) A (isTrue e env (eval e env)) Q E s:=by
 rw[he]
 exact aa (O.ev h Y fun W1 hp1 s1 v va d1 h1 x1 R1 r1=>aa (aJ (aU (bO h1 fun b hb h1=>mV hb R1 r1 fun t=>(P.after x1) _ _ _ _ _ h1 (dP.toks s1 t).le R1.toks))))
theorem oE(g:GlbA B G)(O:fi B n r)
  {e:Expr} {K:Bool→Hp→Ds→Prop} {Q:Bool→ag→Prop} (h:CX G r e Γ hp ds K) (Y:cj B n Γ A W env hp s) (P:mj B W s K Q):ar (model B.prog B.w) A (isTrue e env (eval e env)) Q E s:=by
 cases e with
 |UnaryOp op x p=>
  cases op with
  |Not=>exact wpAny_isTrue_Not (O.ts h Y fun W1 hp1 s1 c d1 h1 x1 R1=>P _ _ _ _ _ h1 x1 R1)
  |_=>exact jo O h Y P rfl
 |BoolOp op es p=>exact wpAny_isTrue_BoolOp (zx O h Y P)
 |IfExp t b o p=>
  refine isTrue_IfExp (O.ts h Y fun W1 hp1 s1 c d1 h1 x1 R1=> ?_)
  obtain⟨d,h1⟩:=nD h1
  cases c with
  |true=>exact O.ts h1 (Y.le x1 R1) (P.after x1)
  |false=>exact O.ts h1 (Y.le x1 R1) (P.after x1)
 |Compare l ops rs p=>
  refine bp h fun hn h=> ?_
  have e:isTrue (.Compare l ops rs p) env (eval (.Compare l ops rs p) env)=(do testChain p (←eval l env) ops (markedEach ops rs (evalEach rs env))):=rfl
  rw[e,g7 ops rs env hn]
  exact aa (O.ev h Y fun W1 hp1 s1 a va d1 h1 x1 R1 r1=>xv O h1 (Y.le x1 R1) r1 (P.after x1))
 |Call f args kw p=>
  refine lR (C:=fun f=>ar (model B.prog B.w) A (isTrue (.Call f args kw p) env (eval (.Call f args kw p) env)) Q E s) h (fun o name ap h=> ?_) fun f hf h=>jo O h Y P rfl
  induction e:name==ae "search" using ah with
  |false=>rw[e]at h;exact jo O h Y P rfl
  |true=> ?_
  rw[e]at h
  obtain rfl:=eq_of_beq e
  refine bp h fun hs h=>bp h fun hl h=>bp h fun ha h=>bp h fun hn h=>fV (C:=fun kw=>dZ (args.length+kw.length) 29=true→ar (model B.prog B.w) A (isTrue (.Call (.Attribute o (ae "search") ap) args kw p) env (eval (.Call (.Attribute o (ae "search") ap) args kw p) env)) Q E s) h (fun h hn=> ?_) hn
  refine aa (m:=eval _ _) (fm (jS:=[]) hs (eq_of_beq hl) (aq hn) ha rfl (O.ev h Y fun W1 hp1 s1 v vf d1 h1 x1 R1 r1=>bO h1 fun c hc h1=>GE (C:=fun c=>hZ G v (ae "search") hp1=some c→_) h1 (fun ok h1 hc=>gi g hc R1 r1 fun f first s2 g2 R2 hf=> ?_) hc))
  refine fC (eY ha) (yP (p:=p) (env:=env) (ks:=[]) rfl).all (lQ O ha h1 ((Y.le x1 R1).le g2.le R2) fun W3 hp3 s3 l vs d3 h3 x3 R3 r3=>ao ?_)
  have z:=uf (A:=A) (E:=E) (va:=vf) h3 R3 (ji.tr x3.toTr hf) r3 (((P.after x1).after g2.le).after x3)
  exact⟨z.1 _ rfl,bF z.2 (fun v s q=>aa (aJ (aU q))) fun M M e=>e⟩
 |_=>exact jo O h Y P rfl
end
def Jj(B:bW)(a:aB):Prop:=∀{A:bv} {W:Wd} {hp:Hp} {s:ag} {va:Value} {x:List Nat} {Q:Value→ag→Prop} {E:Value→ag→Prop} {fs:List aB},jg A 2 fs→R B W hp s→a7 W va (.str x)→
 (∀f I s1,xJ B A W hp s ((f9 0 false x).map (emb EI)) (fun M p=>p) f I s1→Q (.ref I) s1)→ar (model B.prog B.w) A (call (.ref a) [va]) Q E s
structure GlbG(B:bW)(G:fS):Prop extends GlbI B G where
 gen: ∀a,G.gen a=true→Jj B a∧∃o fd,B.h0.get? a=some o∧a ∉ B.tabs∧o.data= .func fd
section
variable{B:bW}{G:fS}{C:cG}{r:Ev}{n:Nat}{Γ:Cx}{A:bv}{W W' W0 W1 W2:Wd}{env cenv:Env}{hp hp' hp2:Hp}{s s' s0 s1 s2:ag}{ds:Ds}{E:Value→ag→Prop}{X:eG}
theorem qU{RR:Result→ag→Prop}{target:Expr}{it:Value}{body:List bP}(I:Nat→ag→Prop)
  (turn: ∀n s,I n s→(fun E=>ar (model B.prog B.w) A (pyNext it) (fun r s₁=>match r with
   |none=>RR (.ok .next) s₁
   |some v=>ar (model B.prog B.w) A (letOwnedTupleGo target it v) (fun M s₁'=>ar (model B.prog B.w) A (assign target env v) (fun M s₂=>ar (model B.prog B.w) A (execs body env) (fun f s₃=>match f with
     | .next| .cont=>∃m,m<n∧I m s₃
     | .brk=>RR (.ok .next) s₃
     | .ret v=>RR (.ok (.ret v)) s₃) E s₂) E s₁') E s₁) E s) (notedBy (model B.prog B.w) A env fun e s'=>RR (.error e) s'))
  (n:Nat) (h:I n s):dX (model B.prog B.w) A (.forLoop target it body [] env) RR s:=by
 refine codeAny_loop' rfl I (fun n s hI=> ?_) n h
 show ar _ _ ((forTurn target it body [] env).onRaise (fun x=>do noteFrame x env;theTreesLotGoes x)) _ _ s
 refine wpAny_noted ?_
 unfold forTurn
 refine aa (aJ (aa (wpAny_onRaise (bF (turn n s hI) (fun r s₁ h₁=> ?_) fun M M h'=>aJ h'))))
 induction r using aw with
 |none=>exact ao (.inr ⟨rfl,codeAny_block (wpAny_execs_nil h₁)⟩)
 |some v=>
  refine aa (bF h₁ (fun M s₁' h₁'=> ?_) fun M M h'=>h')
  refine aa (bF h₁' (fun M s₂ h₂=>aa (bF h₂ (fun f s₃ h₃=> ?_) fun M M h'=>h')) fun M M h'=>h')
  induction f using PySem.Flow.casesOn with
  |next=>exact ao (.inl ⟨rfl,h₃⟩)
  |cont=>exact ao (.inl ⟨rfl,h₃⟩)
  |brk=>exact ao h₃
  |ret v=>exact ao h₃
theorem fB(O:fi B n r)(tp:jA A env){b:List bP}: ∀{hp:Hp} {ds:Ds} {K:KF} {W:Wd} {s:ag} {Q:Flow→ag→Prop},bf r b Γ hp ds K→cj B n Γ A W env hp s→fR B W s K Q→ar (model B.prog B.w) A (execs b env) Q E s:=by
 induction b with
 |nil=>intro hp ds K W s Q h Y P;exact wpAny_execs_nil (P _ _ _ .next .next _ h (.refl ..) Y.relH trivial)
 |cons st b ih=>
  intro hp ds K W s Q h Y P
  refine bQ (O.ex h tp Y fun W1 hp1 s1 f vf d1 h1 x1 R1 r1=> ?_)
  induction f using Fl.casesOn with
  |next=>rcases vf with _|_<;>first|exact ih h1 (Y.le x1 R1) (P.after x1)|exact r1.elim
  |brk=>rcases vf with _|_<;>first|exact P _ _ _ .brk .brk _ h1 x1 R1 trivial|exact r1.elim
  |cont=>rcases vf with _|_<;>first|exact P _ _ _ .cont .cont _ h1 x1 R1 trivial|exact r1.elim
  |ret u=>rcases vf with _|_<;>first|exact P _ _ _ (.ret u) (.ret _) _ h1 x1 R1 r1|exact r1.elim
theorem vI{m fr:Nat}{K:Hp→Ds→Prop}{p:Prop}(h:vJ m fr hp ds K)(Y:R B W hp s)(k: ∀W' hp' ds',K hp' ds'→R B W' hp' s→W'.F=W.F→W'.frs=W.frs→(∀a∈W'.own,a∈W.own)→(∀j a,j<m→W.own[j]? =some a→W'.own[j]? =some a)→p):p:=by
 unfold vJ at h
 induction ds using aO with
 |nil=>exact k W hp [] h Y rfl rfl (fun M h=>h) fun M M M h=>h
 |cons d ds=>induction d using D.casesOn with
  |g names=>exact qI h Y.forget fun hp2 h hJ Y2 M=>k _ _ _ h Y2 rfl rfl (fun a m=>oA hJ m) fun j a hj e=>by rw[lL hJ,sU hj];exact e
  |_=>exact k W hp _ h Y rfl rfl (fun M h=>h) fun M M M h=>h
theorem ml.less(x:ml B X W0 s0 W s)(hF:W'.F=W.F)(hf:W'.frs=W.frs)(hO: ∀a∈W'.own,a∈W.own)(hk: ∀j a,j<W0.own.length→W.own[j]? =some a→W'.own[j]? =some a):ml B X W0 s0 W' s:=
 ⟨⟨fun j a e=>hk j a (au.mp e).1 (x.own j a e),hF▸x.F⟩,hf.trans x.frs,fun a m=>x.newO a (hO a m),hF▸x.newF,x.keep,x.frk,x.live,x.gens⟩
theorem mH{t:Expr}{body:List bP}{turn:V→Hp→Ds→KF→Prop}{l:List V}{ok:Hp→Prop→Prop}{f:eG}{I:aB}{K:KF}{Q:Flow→ag→Prop}
  (hbody: ∀{x hp ds k W s va} {Q':Flow→ag→Prop},turn x hp ds k→cj B n Γ A W env hp s→a7 W va x→fR B W s k Q'→(∀v s,Q' (.ret v) s→Q (.ret v) s)→ar (model B.prog B.w) A (assign t env va) (fun M s₂=>ar (model B.prog B.w) A (execs body env) Q' (notedBy (model B.prog B.w) A env (cameBackBy (model B.prog B.w) A env E)) s₂) (notedBy (model B.prog B.w) A env (cameBackBy (model B.prog B.w) A env E)) s)
  (h:kE turn ok hp.length Γ.fr l hp ds K) (Y:cj B n Γ A W env hp s) (it:xJ B A W hp s l ok f I s1) (P:fR B W s K Q):
  dX (model B.prog B.w) A (.forLoop t (.ref I) body [] env) (fun r s'=>match r with | .ok f=>Q f s'| .error e=>cameBackBy (model B.prog B.w) A env E e s') s1:=by
 cases it with |mk Ok At w hok at0 le rel off alive=> ?_
 refine qU (fun m s'=>∃i xs hp' ds' W',m=xs.length∧l.drop i=xs∧kE turn ok hp.length Γ.fr xs hp' ds' K∧ml B f W s1 W' s'∧R B W' hp' s'∧At i W' s') ?_ _ ⟨0,l,hp,ds,W,rfl,rfl,h,.refl ..,rel,at0⟩
 refine fun m s' q0=>P9 q0 fun i xs hp' ds' W' q1=>Oi q1 fun hm hd h X Y' at'=> ?_
 clear q0 q1
 subst hm
 have fin: ∀{W3 hp3 s3 d3 f' vf},K f' hp3 d3→ml B f W s1 W3 s3→R B W3 hp3 s3→Ji W3 vf f'→Q vf s3:=fun{W3 hp3 s3 d3 f' vf} k x y q=>P _ _ _ f' vf d3 k (le.transX x off) y q
 induction xs using aO with
 |nil=>
  have e:l[i]? =none:=dY.mpr (List.drop_eq_nil_iff.mp hd)
  have k0:=hok _ _ h
  have k1:=k0.1
  have k2:=k0.2
  exact w.done at' X.toTr Y' k1 e fun s2 x2 Y2=>fin (f':= .next) (vf:= .next) k2 (X.trans x2) Y2 trivial
 |cons x xs=>
  have e:l[i]? =some x:=by rw[←List.head?_drop,hd];rfl
  have hd2:l.drop (i+1)=xs:=by rw[←List.drop_drop,hd];rfl
  have k0:=hok _ _ h
  have k1:=k0.1
  have k2:=k0.2
  refine w.next at' X.toTr Y' k1 e fun v s2 W2 rv x2 Y2 kR=>w.letGo kR ?_
  have X2:=X.trans x2
  refine nw (show q6 (turn x hp') ds' _ from k2) (T:=fun k=>∀{Q':Flow→ag→Prop},fR B W2 s2 k Q'→(∀v s,Q' (.ret v) s→Q (.ret v) s)→ar (model B.prog B.w) A (assign t env v) (fun M s₂=>ar (model B.prog B.w) A (execs body env) Q' _ s₂) _ s2)
   (fun ds k hk Q P L=>hbody hk ⟨Y.room.fr X2.frs,Y.relE.tr X2.toTr,Y2⟩ rv P L) (fun mono T Q P L=>T (fun W' hp' s' f' vf d k=>(mono f' hp' d k).elim fun d' k'=>P W' hp' s' f' vf d' k') L) (fun W3 hp3 s3 f' vf d3 k3 x3 Y3 rf=> ?_) fun v s h=>h
  have X3:=X2.trans x3.x
  have at3:=w.keep (X:=⟨fun M=>False,fun M=>False⟩) kR Y2 x3.x (fun M M=>id) (fun M M=>id) nofun Y3
  have again:vJ hp.length Γ.fr hp3 d3 (fun hp ds=>kE turn ok (List.length _) Γ.fr xs hp ds K)→∃m,m<xs.length+1∧∃i xs hp' ds' W',m=xs.length∧l.drop i=xs∧kE turn ok hp.length Γ.fr xs hp' ds' K∧ml B f W s1 W' s3∧R B W' hp' s3∧At i W' s3:=fun k=>vI k Y3 fun W4 hp4 d4 k4 Y4 hF hf hO hk=>⟨_,Nat.lt_succ_self _,i+1,xs,hp4,d4,W4,rfl,hd2,k4,X3.less hF hf hO fun j a hj e=>hk j a (rel.len▸hj) e,Y4,w.less at3 hF hO hf⟩
  induction f' using Fl.casesOn with
  |next=>rcases vf with _|_<;>first|exact again k3|exact rf.elim
  |cont=>rcases vf with _|_<;>first|exact again k3|exact rf.elim
  |brk=>rcases vf with _|_<;>first|exact fin (f':= .next) (vf:= .next) k3 X3 Y3 trivial|exact rf.elim
  |ret u=>rcases vf with _|_<;>first|exact fin (f':= .ret u) (vf:= .ret _) k3 X3 Y3 rf|exact rf.elim
end
section
open Builtin
section
variable{B:bW}{G:fS}{C:cG}{r:Ev}{n:Nat}{Γ:Cx}{A:bv}{W W' W0 W1 W2:Wd}{env cenv:Env}{hp hp' hp2:Hp}{s s' s0 s1 s2:ag}{ds:Ds}{E:Value→ag→Prop}{X:eG}
theorem iz:Slot "callable_iterator" "__next__" "callable_iterator.__next__":=
 .of (owner:="callable_iterator") (n:="__next__") (by rw[cq,bB];kernel_rfl) (by decide+kernel) (by decide+kernel) (by decide+kernel) (by first|exact .inl (by decide+kernel)|exact .inr (by decide+kernel)) (by rw[isSubtype_type];kernel_rfl)
theorem oi:entryFor table "callable_iterator.__next__"=some Builtin.«callable_iterator.__next__»:=entryFor_of_fast (by kernel_rfl)
theorem pt(a:Value):argsOk "callable_iterator.__next__" ⟨[a],[]⟩:=by unfold argsOk;kernel_rfl
theorem kl:Slot "callable_iterator" "__iter__" "callable_iterator.__iter__":=
 .of (owner:="callable_iterator") (n:="__iter__") (by rw[cq,bB];kernel_rfl) (by decide+kernel) (by decide+kernel) (by decide+kernel) (by first|exact .inl (by decide+kernel)|exact .inr (by decide+kernel)) (by rw[isSubtype_type];kernel_rfl)
theorem oj:entryFor table "callable_iterator.__iter__"=some Builtin.«dict_keyiterator.__iter__»:=
 entryFor_alias (id':="dict_keyiterator.__iter__") (by kernel_rfl) (by first|rfl|decide+kernel) (by decide+kernel) (by kernel_rfl)
theorem pv(a:Value):argsOk "callable_iterator.__iter__" ⟨[a],[]⟩:=by unfold argsOk;kernel_rfl
theorem zj{I:aB}{o:Obj}{Q:Value→ag→Prop}(ho:s.heap.get? I=some o)(hc:o.cls= .type "callable_iterator")(h:Q (.ref I) s):ar (model B.prog B.w) A (pyIter (.ref I)) Q E s:=by
 have hT:s.TypeIs (.ref I) "callable_iterator":=⟨o,ho,hc⟩
 refine wpAny_pyIter_slot hT kl (wpAny_call_entry kl hT oj ?_ (pv _))
 unfold Builtin.«dict_keyiterator.__iter__»
 refine aa (m:=slotArgs _ _ _) (bq (a:=(.ref I,[])) (by rfl) ?_)
 exact ao ⟨_,rfl,"callable_iterator",_,hT,iz.lookup,h⟩
theorem pq(f:Value)(pos:List Value):callBorrowed f pos=(call f pos).keep [borrowed]:=by
 refine congrArg (Sem.call (.call f ⟨pos,[]⟩) none false [borrowed]) (funext fun r=> ?_)
 rcases r with e|(_|_|_|_)<;>rfl
theorem nG{m f:aB}{sv:Value}{o:Obj}{fd:FuncData}{Q:Bool→ag→Prop}(hm:s.heap.get? m=some {cls:= .type "method",data:= .fields #[.ref f,sv]})(hf:s.heap.get? f=some o)(hd:o.data= .func fd)(h:Q true s):ar (model B.prog B.w) A (borrowsExactly (.ref m)) Q E s:=by
 unfold borrowsExactly
 refine aa (wpAny_load hm ?_)
 dsimp only
 refine KL (by decide) ?_
 refine aa (m:=load f) (wpAny_load hf ?_)
 rw[hd]
 exact ao h
theorem sM{α:Type}{Q:α→ag→Prop}{E':Value→ag→Prop}(hh:A.handled=none)
  (hQ: ∀e h',(∃o,h'.get? e=some o∧o.cls= .type "StopIteration")→(∀b o,s.heap.get? b=some o→h'.get? b=some o)→E' (.ref e) {s with heap:=h'}):
  ar (model B.prog B.w) A (Builtin.SmallTypes.stopIteration:Sem α) Q E' s:=by
 unfold Builtin.SmallTypes.stopIteration
 refine aa ?_
 simp only[newExc,newTuple]
 refine aa (dt ?_ (by size_fits))
 refine aa (m:=firstArgMember _ _) (bq (a:=Value.none) (by first|rfl|(simp only[firstArgMember];rfl)) ?_)
 refine dt ?_ (by size_fits)
 unfold raiseNew
 refine aa (m:=handled) (wpAny_handled ?_)
 rw[hh]
 refine wpAny_throw ?_
 exact hQ _ _ ⟨_,aF _ rfl,rfl⟩ fun b o e=>aD _ (aD _ e)
theorem oC{e:aB}{Q:Option Value→ag→Prop}(he: ∃o,s.heap.get? e=some o∧o.cls= .type "StopIteration")(hQ:Q none s):
  ar (model B.prog B.w) A (do if ←isInstance (.ref e) (.type "StopIteration")then pure none else throw (.ref e)) Q E s:=by
 refine aa (wpAny_isInstance (T:="StopIteration") (b:=true) he isSubtype_stop ?_)
 exact ao hQ
theorem B1{a:aB}{T x y z:Value}{Q:Unit→ag→Prop}(ho:s.heap.get? a=some {cls:=T,data:= .fields #[x,y,z]})(hQ: ∀h',h'.get? a=some {cls:=T,data:= .fields #[.none,.none,.bool true]}→dq.SameBut a s.heap h'→Q () {s with heap:=h'}):
  ar (model B.prog B.w) A (do setField (.ref a) 0 .none;setField (.ref a) 1 .none;setField (.ref a) 2 (.bool true)) Q E s:=by
 refine aa (wpAny_setField ho rfl (by simp) ?_)
 have e1:=dq.get?_update_self (h:=s.heap) (a:=a) (Obj.mapFields (·.setIfInBounds 0 .none)) ho rfl
 refine aa (wpAny_setField e1 rfl (by simp) ?_)
 have e2:=dq.get?_update_self (a:=a) (Obj.mapFields (·.setIfInBounds 1 .none)) e1 rfl
 refine wpAny_setField e2 rfl (by simp) ?_
 have e3:=dq.get?_update_self (a:=a) (Obj.mapFields (·.setIfInBounds 2 (.bool true))) e2 rfl
 exact hQ _ e3 (((dq.SameBut.update ..).trans (dq.SameBut.update ..)).trans (dq.SameBut.update ..))
theorem tJ{f:V→V→Bool→Prop}{o:Option AO}(h:zm f o){p:Prop}(k: ∀g st e,o=some (.calls g st e)→f g st e→p):p:=by
 induction o using aw with
 |none=>exact h.elim
 |some o=>induction o using AO.casesOn with
  |calls g st e=>exact k g st e rfl h
  |_=>exact h.elim
theorem wM{v:V}{f:aB→V→Prop}(h:wN v f){p:Prop}(k: ∀a u,v= .meth a u→f a u→p):p:=by
 induction v using V.casesOn with
 |meth a u=>exact k a u rfl h
 |_=>exact h.elim
theorem t6{v:V}{f:List Nat→Prop}(h:gU v f){p:Prop}(k: ∀x,v= .str x→f x→p):p:=by
 induction v using V.casesOn with
 |str x=>exact k x rfl h
 |_=>exact h.elim
theorem zn(Co:gz B C n){a:aB}{args:List V}{kw:List (Str×V)}{K:KV}(h:iD C (.val (.ref a)) args kw hp ds K): ∃o fd,B.h0.get? a=some o∧a ∉ B.tabs∧o.data= .func fd:=by
 unfold iD at h
 generalize km hp 400 _ []=J at h
 exact bp h fun M h=>bO h fun M M h=>bO h fun f e2 h=>bO h fun M M h=>bO h fun M M h=>by
  obtain rfl:=af e2
  exact nv h (T:=fun M=>∃o fd,B.h0.get? a=some o∧a ∉ B.tabs∧o.data= .func fd) (fun M M h=>Co.top h) fun M h=>h
theorem wE(Co:gz B C n){m:Nat}{a:aB}{K:Option V→Hp→Ds→Prop}{Q:Option Value→ag→Prop}(h:II C m hp ds K)(Y:R B W hp s)(hr:jg A (n+1) W.frs)(hn:W.own[m]? =some a)
  (hQ0: ∀W' hp' s' ds',K none hp' ds'→Le B W s W' s'→R B W' hp' s'→Q none s') (hQ1: ∀W' hp' s' u v ds',K (some u) hp' ds'→Le B W s W' s'→R B W' hp' s'→a7 W' v u→(∃o,s'.heap.get? a=some o∧o.cls= .type "callable_iterator")→Q (some v) s'):
  ar (model B.prog B.w) A (pyNext (.ref a)) Q E s:=by
 refine tJ h fun g st e q h=> ?_
 obtain⟨fv,sv,ho,rf,rst⟩:rH s.heap a (a7 W · g) (a7 W · st) e:=Y.objs m a _ hn q
 have hT:s.TypeIs (.ref a) "callable_iterator":=⟨_,ho,rfl⟩
 unfold pyNext
 refine aa (wpAny_attempt (wpAny_callSpecial?_slot (name:=ae "__next__") hT iz
  (wpAny_call_entry iz hT oi ?_ (pt _))))
 induction e using ah with
 |true=>
  show ar _ _ (field (.ref a) 2>>=_) _ _ s
  refine aa (wpAny_field ho rfl (x:= .bool true) rfl ?_)
  refine KL (by decide) ?_
  refine aa (wpAny_rule (aa (sM hr.handled fun e h' he hk=> ?_)))
  have gx:dP s {s with heap:=h'}:=⟨hk,rfl,rfl⟩
  exact oC he (hQ0 _ _ _ _ h gx.le (Y.grow gx))
 |false=>
  refine t6 h fun y hy h3=>wM h3 fun f self hg h5=> ?_
  subst hy
  subst hg
  obtain⟨mA,sv2,hm,rself⟩:A4 W.F f (V2 W self).1 fv:=rf
  have hm:=Y.sub _ _ hm
  obtain⟨of,fd,hof,hot,hod⟩:=zn Co h5
  show ar _ _ (field (.ref a) 2>>=_) _ _ s
  refine aa (wpAny_field ho rfl (x:= .bool false) rfl ?_)
  refine IV (by decide) ?_
  refine aa (wpAny_field ho rfl (x:= .ref mA) rfl ?_)
  have hr1:jg A.in1 n W.frs:=⟨hr.handled,(hr.less (cN _)).depth,iW (k:=40) hr.units (by decide),hr.stk⟩
  refine aa (wpAny_attempt ?_)
  unfold callOutOfASlot
  refine aa (nG hm (Y.old hof hot) hod ?_)
  refine KL rfl ?_
  rw[pq]
  refine Calls.wpAny_keep (wpAny_call (method_call hm (kg Co (kwv:=[]) h5 hr1 Y rfl (.one rself) rfl .nil fun W1 hp1 s1 v vr d1 h1 x1 R1 r1=> ?_)))
  refine tJ h1 fun g2 st2 e2 q1 h6=>wM h6 fun f2 self2 hg2 h7=>bp h7 fun hf2 h8=> ?_
  have hf2:=aV hf2
  subst hf2
  subst hg2
  induction e2 using ah with
  |true=>exact h8.elim
  |false=>
  refine t6 h8 fun y2 hy2 h9=>t6 h9 fun x hx h10=> ?_
  subst hy2
  subst hx
  have hn1:=x1.own _ _ hn
  obtain⟨fv2,sv3,ho2,rf2,rst2⟩:rH s1.heap a (a7 W1 · (.meth f2 self2)) (a7 W1 · (.str y2)) false:=R1.objs m a _ hn1 q1
  obtain⟨m2,sv4,hm2,rself2⟩:A4 W1.F f2 (V2 W1 self2).1 fv2:=rf2
  have hm2:=R1.sub _ _ hm2
  obtain⟨ty,hyz⟩:eJ y2 sv3:=rst2
  refine aa (wpAny_field ho2 rfl (x:= .bool false) rfl ?_)
  refine IV (by decide) ?_
  refine aa (wpAny_field ho2 rfl (x:= .str ⟨y2.toArray⟩ ty) rfl ?_)
  refine(@id (eJ x vr) (r1)).elim fun tx hxz=> ?_
  refine(nD h10).elim fun d2 h11=> ?_
  refine aa (aU (wpAny_eqBool_str ?_))
  by_cases hxy:y2=x
  ·subst hxy
   rw[show(y2==y2)=true from beq_self_eq_true y2]at h11
   refine IV (by simp) ?_
   refine aa (wpAny_rule (aa ?_))
   show ar _ _ (do
    slotLetsGo "callable_iterator.__next__" (←field (.ref a) 0) fun | .builtin "callable_iterator.__next__" x=>x.pos.head?==some (.ref a)|_=>false
    setField (.ref a) 0 .none;setField (.ref a) 1 .none;setField (.ref a) 2 (.bool true)) _ _ _
   refine aa (wpAny_field ho2 rfl (x:= .ref m2) rfl ?_)
   refine aa (m:=slotLetsGo _ _ _) ?_
   unfold slotLetsGo
   refine aa (nG hm2 (R1.old hof hot) hod ?_)
   refine KL rfl ?_
   refine ao (B1 ho2 fun h' e' hs=> ?_)
   refine sM hr.handled fun ee h'' he hk=> ?_
   have x:tP a s1 {s1 with heap:=h''}:=⟨fun b o hb eb=>hk b o ((hs.2 b hb).trans eb),⟨_,hk _ _ e'⟩,rfl,rfl⟩
   exact oC he (hQ0 _ _ _ _ h11 (x1.trans (x.le (.inl (c8 hn1)))) (R1.write x hn1 (R1.offAt hn1 q1 nofun) (o':= .calls .none .none true) (rH.mk .none .none (hk _ _ e') rfl rfl) fun z=>z.elim fun l z=>nomatch q1.symm.trans z))
  ·rw[show(y2==x)=false from beq_eq_false_iff_ne.mpr hxy]at h11
   refine KL (by simpa using hxy) ?_
   refine ao ⟨_,rfl,ao ?_⟩
   exact hQ1 _ _ _ _ _ _ h11 x1 R1 (.mk tx hxz) ⟨_,ho2,rfl⟩
theorem wT(Co:gz B C n){t:Expr}{body:List bP}{turn:V→Hp→Ds→KF→Prop}{m k:Nat}{va:Value}{K:KF}{Q:Flow→ag→Prop}{g st:V}{e:Bool}
  (hbody: ∀{x hp ds k W s va} {Q:Flow→ag→Prop} {E:Value→ag→Prop},turn x hp ds k→cj B (n+1) Γ A W env hp s→a7 W va x→fR B W s k Q→ar (model B.prog B.w) A (assign t env va) (fun M s₂=>ar (model B.prog B.w) A (execs body env) Q E s₂) E s)
  (h:kn C turn hp.length Γ.fr m k hp ds K) (Y:cj B (n+1) Γ A W env hp s) (hq:hp[m]? =some (.calls g st e)) (r:a7 W va (.own m)) (P:fR B W s K Q):
  ar (model B.prog B.w) A (pyIter va) (fun it s₂=>dX (model B.prog B.w) A (.forLoop t it body [] env) (fun r s'=>match r with | .ok f=>Q f s'| .error e=>cameBackBy (model B.prog B.w) A env E e s') s₂) E s:=by
 refine Y.relH.own r hq fun a hn ro=> ?_
 obtain⟨fv,sv,ho,_,_⟩:rH s.heap a (a7 W · g) (a7 W · st) e:=ro
 refine zj ho rfl ?_
 refine qU (fun k s'=>∃hp' ds' W',kn C turn hp.length Γ.fr m k hp' ds' K∧Le B W s W' s'∧R B W' hp' s') ?_ k ⟨hp,ds,W,h,.refl ..,Y.relH⟩
 rintro k s' ⟨hp',ds',W',h,X,Y'⟩
 induction k using Nat.casesOn with
 |zero=>exact h.elim
 |succ k=>
  refine wE Co h Y' (Y.room.fr X.frs) (X.own _ _ hn) (fun W2 hp2 s2 d2 h2 x2 R2=>P _ _ _ .next .next _ h2 (X.trans x2) R2 trivial) fun W2 hp2 s2 u v d2 h2 x2 R2 rv ho2=> ?_
  obtain⟨o2,ho2,hc2⟩:=ho2
  refine ni ho2 hc2 (lu (by kernel_rfl)) ?_
  have X2:=X.trans x2
  refine nw (show q6 (turn u hp2) d2 _ from h2) (T:=fun k=>∀{Q:Flow→ag→Prop},fR B W2 s2 k Q→ar (model B.prog B.w) A (assign t env v) (fun M s₂=>ar (model B.prog B.w) A (execs body env) Q _ s₂) _ s2)
   (fun ds k hk Q P=>hbody hk ⟨Y.room.fr X2.frs,Y.relE.tr X2.toTr,R2⟩ rv P) (fun mono T Q P=>T fun W' hp' s' f' vf d k=>(mono f' hp' d k).elim fun d' k'=>P W' hp' s' f' vf d' k') fun W3 hp3 s3 f' vf d3 k3 x3 Y3 rf=> ?_
  have X3:=X2.trans x3
  have again:vJ hp.length Γ.fr hp3 d3 (fun hp ds=>kn C turn (List.length _) Γ.fr m k hp ds K)→∃j,j<k+1∧∃hp' ds' W',kn C turn hp.length Γ.fr m j hp' ds' K∧Le B W s W' s3∧R B W' hp' s3:=fun k=>vI k Y3 fun W4 hp4 d4 k4 Y4 hF hf hO hk=>⟨_,Nat.lt_succ_self _,hp4,d4,W4,k4,⟨⟨fun j a e=>hk j a (Y.relH.len▸(au.mp e).1) (X3.own j a e),hF▸X3.F⟩,hf.trans X3.frs,fun a m=>X3.newO a (hO a m),hF▸X3.newF,X3.keep,X3.frk,X3.live,X3.gens⟩,Y4⟩
  induction f' using Fl.casesOn with
  |next=>rcases vf with _|_<;>first|exact again k3|exact rf.elim
  |cont=>rcases vf with _|_<;>first|exact again k3|exact rf.elim
  |brk=>rcases vf with _|_<;>first|exact P _ _ _ .next .next _ k3 X3 Y3 trivial|exact rf.elim
  |ret u=>rcases vf with _|_<;>first|exact P _ _ _ (.ret u) (.ret _) _ k3 X3 Y3 rf|exact rf.elim
end
end
section
variable{B:bW}{G:fS}{C:cG}{r:Ev}{n:Nat}{Γ:Cx}{A:bv}{W W' W0 W1 W2:Wd}{env cenv:Env}{hp hp' hp2:Hp}{s s' s0 s1 s2:ag}{ds:Ds}{E:Value→ag→Prop}{X:eG}
theorem rU{t:Ty}{l:List (den t)}{va:Value}{Q:Value→ag→Prop}(hh:A.handled=none)(Y:R B W hp s)(rv:a7 W va (.lst t l))
  (hQ: ∀f I s1,xJ B A W hp s (l.reverse.map (emb t)) (fun M p=>p) f I s1→Q (.ref I) s1):ar (model B.prog B.w) A (call (.type "reversed") [va]) Q E s:=by
 refine eD.elim (C:=fun va=>ar (model B.prog B.w) A (call (.type "reversed") [va]) Q E s) (show eD "list" W.F _ va from rv) fun a items m ho z rs=> ?_
 have hx:=Y.sub _ _ ho
 have hl:s.heap.IsList a items:=⟨_,hx,rfl,_,rfl⟩
 refine call_reversed_list hl ?_
 have hlen:=rs.length
 rw[aN]at hlen
 have hne:a≠s.heap.objs.size:=cR (dK hx)
 refine hQ _ _ _ (pJ (o:=revObj a ((items.size:Int)-1)) (ax:=[a]) (P:=fun i v=>items[items.size-1-i]? =some v) (St:=fun i h=>i≤items.size∧h.IsRevIter s.heap.objs.size a ((items.size:Int)-1-(i:Int))∧h.IsList a items) Y ?_ (fun i h st=> ?_) (fun i v u hv hu W' tr=> ?_) ?_ fun b hb=>az.mp hb▸⟨_,ho⟩)
 ·rw[aE,List.length_reverse,←hlen]
  exact Walks.listRev (prog:=B.prog) (w:=B.w) hh s.heap.objs.size a hne items
 ·obtain⟨_,⟨o,ho,hc,_⟩,_⟩:=st
  exact⟨o,_,ho,hc,lu (by kernel_rfl)⟩
 ·rw[List.getElem?_map]at hu
  refine kP hu fun d hd z1z=> ?_
  obtain rfl:=z1z
  have hi:i<l.length:=by
   have:=(au.mp hd).1
   rwa [List.length_reverse]at this
  rw[List.getElem?_reverse hi]at hd
  obtain⟨w,e1,e2⟩:=rs.get hd
  rw[cr,←hlen]at e1
  obtain rfl:=af (hv.symm.trans e1)
  exact ff.emb (e2.mono tr.F)
 ·refine⟨a9 _,⟨_,aF _ rfl,rfl,?_⟩,⟨_,aD _ hx,rfl,_,rfl⟩⟩
  simp[revObj]
theorem vO(O:fi B n r)(tp:jA A env){t:Expr}{body:List bP}{x:V}{k:KF}{va:Value}{Q:Flow→ag→Prop}(h:pZ r t body Γ x hp ds k)(Y:cj B n Γ A W env hp s)(rv:a7 W va x)(P:fR B W s k Q):
  ar (model B.prog B.w) A (assign t env va) (fun M s₂=>ar (model B.prog B.w) A (execs body env) Q E s₂) E s:=
 gc h Y rv fun W1 hp1 s1 h1 x1 R1=>fB O tp h1 (Y.le x1 R1) (P.after x1)
theorem yf(g:GlbG B G)(O:fi B (n+1) r){i:Expr}{sp:Ig}{x:Expr}{K:List V→Hp→Ds→Prop}{Q:Value→ag→Prop}(hs:C1 G Γ i=some (sp,x))(hn:1≤n)(h:r.ev x Γ hp ds fun v hp ds=>Iy sp v fun xs=>K xs hp ds)(Y:cj B (n+1) Γ A W env hp s)
  (k: ∀W' hp' s' l ds' f I s1,K l hp' ds'→Le B W s W' s'→R B W' hp' s'→xJ B A W' hp' s' l (fun M p=>p) f I s1→Q (.ref I) s1):ar (model B.prog B.w) A (eval i env) Q E s:=by
 induction i using PySem.Expr.casesOn with
 |Call f args kw cp=>
  refine jD hs fun nm hnm hs1=> ?_
  refine(nW hnm).elim fun fp z1z=> ?_
  obtain rfl:=z1z
  rcases hdb:nm==ae "__debug__" with _|_<;>rw[hdb]at hs1
  case true=>injection hs1
  obtain⟨hk,hs2⟩:=fq (show cond (Γ.names.lookup nm==some .globalImplicit) _ none=some (sp,x)from hs1)
  refine jD hs2 fun gv hgv hs3=> ?_
  refine jD hs3 fun sp' hsp hs4=> ?_
  induction args using aO with
  |nil=>injection hs4
  |cons a rest=>
   obtain⟨hr,hs5⟩:=fq hs4
   obtain⟨hkw,hs6⟩:=fq hs5
   refine(fq hs6).elim fun hpl hs7=> ?_
   obtain rfl:=ie hr
   obtain rfl:=ie hkw
   cases hs7
   rw[show eval (.Call (.Name nm fp) [x] [] cp) env=(do callWith cp (←eval (.Name nm fp) env) [] (backTo cp (starEach [x] env)) (backToKw cp (keywordEach [] env)))from rfl]
   have e:eval (.Name nm fp) env=(do
    dI fp
    if nm==("__debug__":Str)then debugConstant else loadName env nm):=rfl
   rw[e,show(nm==("__debug__":Str))=false from hdb,if_neg (by simp),gu Y.relE.kind (.inl (Y.relE.name (eq_of_beq hk)))]
   refine aa (aa (aJ (g.glob nm gv hgv Y.relE.glob Y.relE.bui Y.relH fun vf rf=> ?_)))
   refine fC (eY hpl) rfl (args_cons (O.ev h Y fun W1 hp1 s1 v va d1 h1 x1 R1 r1=>args_nil (ao ?_)) (fE hpl).1)
   unfold Iz at hsp
   induction gv using V.casesOn with
   |val c=>
    obtain rfl:=(show vf=c from rf)
    induction vf using PySem.Value.casesOn with
    |type T=>
     dsimp only at hsp
     obtain⟨hT,hsp⟩:=fq hsp
     obtain rfl:=af hsp
     have hT:=eq_of_beq hT
     subst hT
     refine⟨.type _,?_⟩
     show ar _ _ (call (.type "reversed") [va]) _ _ _
     have h1:GR v fun t l=>K (l.reverse.map (emb t)) hp1 d1:=h1
     exact uz (C:=fun v=>a7 W1 va v→ar (model B.prog B.w) A (call (.type "reversed") [va]) Q E s1) h1 (fun t l h1 r1=>rU Y.room.handled R1 r1 fun f I s2 it=>k _ _ _ _ _ f I s2 h1 x1 R1 it) r1
    |ref b=>
     dsimp only at hsp
     obtain⟨hb,hsp⟩:=fq hsp
     obtain rfl:=af hsp
     obtain⟨gok,o,fd,ho,hat,hd⟩:=g.gen b hb
     refine⟨.func (R1.old ho hat) hd,?_⟩
     show ar _ _ (call (.ref b) [va]) _ _ _
     have h1:gU v fun s=>K ((f9 0 false s).map (emb EI)) hp1 d1:=h1
     exact fj (C:=fun v=>a7 W1 va v→ar (model B.prog B.w) A (call (.ref b) [va]) Q E s1) h1 (fun y h1 r1=>gok (Y.room.less (cM hn)) R1 r1 fun f I s2 it=>k _ _ _ _ _ f I s2 h1 x1 R1 it) r1
    |_=>injection hsp
   |_=>injection hsp
 |_=>injection hs
theorem yV{v:V}{f:Nat→Prop}{g p:Prop}(h:uE hp v f g)(k1: ∀m a b c,v= .own m→hp[m]? =some (.calls a b c)→f m→p)(k2:g→p):p:=by
 unfold uE at h
 induction v using V.casesOn with
 |own m=>
  dsimp only at h
  induction q:hp[m]? using aw with
  |none=>rw[q]at h;exact k2 h
  |some o=>
   rw[q]at h
   induction o using AO.casesOn with
   |calls a b c=>exact k1 m a b c rfl q h
   |_=>exact k2 h
 |_=>exact k2 h
theorem Be{f:Nat→Ds→Prop}(h:CF ds f): ∃k d,f k d:=by
 induction ds using aO with
 |nil=>exact h.elim
 |cons d ds=>induction d using D.casesOn with
  |k m=>exact⟨_,_,h⟩
  |_=>exact h.elim
theorem y6(g:GlbG B G)(O:fi B (n+1) r)(tp:jA A env)(Co:gz B C n)(hn:1≤n){t i:Expr}{body els:List bP}{p:Pos}{K:KF}{Q:Flow→ag→Prop}(h:K5 G C r t i body els Γ hp ds K)(Y:cj B (n+1) Γ A W env hp s)(P:fR B W s K Q):
  ar (model B.prog B.w) A (exec (.For t i body els p) env) Q E s:=by
 refine fV (C:=fun els=>ar (model B.prog B.w) A (exec (.For t i body els p) env) Q E s) h fun h=>bp h fun hset h=>wpAny_For ?_ (hV hset env)
 have tb: ∀{x hp ds k W s va} {Q:Flow→ag→Prop} {E:Value→ag→Prop},pZ r t body Γ x hp ds k→cj B (n+1) Γ A W env hp s→a7 W va x→fR B W s k Q→
   ar (model B.prog B.w) A (assign t env va) (fun M s₂=>ar (model B.prog B.w) A (execs body env) Q E s₂) E s:=fun h Y rv P=>vO O tp h Y rv P
 induction q:C1 G Γ i using aw with
 |some sx=>
  obtain⟨sp,x⟩:=sx
  rw[q]at h
  refine yf g O (K:=fun xs hp ds=>kE (pZ r t body Γ) (fun M p=>p) hp.length Γ.fr xs hp ds K) q hn h Y fun W1 hp1 s1 l d1 f I s2 h1 x1 R1 it=> ?_
  have it':=it
  cases it with |mk Ok At w hok at0 le rel off alive=> ?_
  exact w.self at0 (mH (fun a b c d M=>tb a b c d) h1 (Y.le x1 R1) it' (P.after x1))
 |none=>
  rw[q]at h
  refine O.ev h Y fun W1 hp1 s1 v va d1 h1 x1 R1 r1=>yV h1 (fun m a b c hv hq h1=> ?_) fun h1=>jZ h1 Y.room.handled R1 r1 fun l ok I s2 h2 it=>mH (fun a b c d M=>tb a b c d) h2 (Y.le x1 R1) it (P.after x1)
  refine(Be h1).elim fun k zz=>zz.elim fun d h1=> ?_
  exact wT Co tb h1 (Y.le x1 R1) hq (hv▸r1) (P.after x1)
end
section
variable{B:bW}{G:fS}{C:cG}{r:Ev}{n:Nat}{Γ:Cx}{A:bv}{W W' W0 W1 W2:Wd}{env cenv:Env}{hp hp' hp2:Hp}{s s' s0 s1 s2:ag}{ds:Ds}{E:Value→ag→Prop}{X:eG}
theorem lY(o i:Expr)(p:Pos)(env:Env)(va:Value):assign (.Subscript o i p) env va=(do
    let ov ←holding [va] (eval o env)
    let iv ←holding [va,ov] (eval i env)
    dI p
    holding [va,ov,iv] (setItem ov iv va)
    release (match i with | .Slice _ _ none _=>[iv,va,ov]|_=>[va,ov,iv]) []):=rfl
theorem Fu(env:Env){l:List Arg}(h:l.all (·.annotation.isNone)=true):annotationsOf l env=[]:=by
 induction l with
 |nil=>rfl
 |cons a l ih=>
  simp only[List.all_cons,cL]at h
  obtain⟨n,an,p⟩:=a
  have:an=none:=by simpa using h.1
  subst this
  have:=ih h.2
  first|exact this|simp[annotationsOf,this]
def LI(B:bW)(W:Wd)(s:ag)(K:Hp→Ds→Prop)(Q:Unit→ag→Prop):Prop:=∀W' hp' s' ds,K hp' ds→Le B W s W' s'→R B W' hp' s'→Q () s'
theorem rX(g:GlbA B G)(O:fi B n r){t:Expr}{v:V}{va:Value}{K:Hp→Ds→Prop}{Q:Unit→ag→Prop}(h:uy r G t v Γ hp ds K)(Y:cj B n Γ A W env hp s)(rv:a7 W va v)(P:LI B W s K Q):ar (model B.prog B.w) A (assign t env va) Q E s:=by
 have plain:iK Γ t v hp (fun hp=>K hp ds)→ar (model B.prog B.w) A (assign t env va) Q E s:=fun h=>gc h Y rv fun W' hp' s' k x y=>P W' hp' s' ds k x y
 cases t with
 |Attribute o name p=>
  rw[show assign (.Attribute o name p) env va=(do
    let ov ←holding [va] (eval o env)
    dI p.atName
    holding [va,ov] (setAttr ov name va)
    release [va,ov] [])from rfl]
  refine aa (aU (O.ev h Y fun W1 hp1 s1 ov vo d1 h1 x1 R1 r1=>bO h1 fun hp2 hq h1=> ?_))
  refine aa (aJ (aa (aU (kY g hq R1 r1 (rv.tr x1.toTr) fun W2 hp3 s2 e x2 R2=> ?_))))
  exact wpAny_release (P _ _ _ d1 h1 (x1.trans x2) (e▸R2))
 |Subscript o i p=>
  rw[lY]
  refine aa (aU (O.ev h Y fun W1 hp1 s1 ov vo d1 h1 x1 R1 r1=> ?_))
  refine aa (aU (O.ev h1 (Y.le x1 R1) fun W2 hp2 s2 iv vi d2 h2 x2 R2 r2=> ?_))
  refine aa (aJ (aa (aU (qr h2 R2 (r1.tr x2.toTr) r2 ((rv.tr x1.toTr).tr x2.toTr) fun W3 hp3 s3 h3 x3 R3=> ?_))))
  exact wpAny_release (P _ _ _ d2 h3 ((x1.trans x2).trans x3) R3)
 |_=>exact plain h
theorem gt(h:env.scope.kind= .function):interactive env=false:=by unfold interactive;rw[h];rfl
noncomputable def t5(env:Env)(line:Nat):Expr→Option Str
 | .Name id pos=>if env.kindOf id==some .local&&pos.line==line then some id else none
 |M=>none
noncomputable def cP(env:Env)(line:Nat)(ts:List Expr):List Str:=ts.filterMap (t5 env line)
theorem wZ{c:Prop}[Decidable c]{α:Type}{a b:α}(P:α→Prop)(ha:c→P a)(hb: ¬c→P b):P (if c then a else b):=by
 by_cases h:c
 ·rw[if_pos h];exact ha h
 ·rw[if_neg h];exact hb h
theorem GL{a b:Bool}(h: ¬(a||b)=true):a=false∧b=false:=by cases a<;>cases b<;>first|exact⟨rfl,rfl⟩|exact absurd rfl h
theorem AV{a b:Nat}(h:(a !=b)=false):a=b:=by
 unfold bne at h
 cases q:a==b with
 |true=>exact eq_of_beq q
 |false=>rw[q]at h;exact nomatch h
def lH(env:Env)(t e:Expr)(z:Sem (Option (List Str))):Prop:=z=pure none∨
  ∃ts k p vs k2 p2 line,t= .Tuple ts k p∧e= .Tuple vs k2 p2∧z=pure (some (cP env line ts))∧(ts.length=2∨ts.length=3)∧(cP env line ts).length=ts.length∧(cP env line ts).eraseDups.length=(cP env line ts).length
theorem my{t e:Expr}:lH env t e (pure none):= .inl rfl
theorem Gk{ts vs:List Expr}{k k2:Nat}{p p2:Pos}{line:Nat}(h:m8 (.Tuple ts k p) (.Tuple vs k2 p2)=true)(h1: ¬(!(ts.length==2||ts.length==3)||vs.length !=ts.length||env.blockKind != .function)=true)
  (h3: ¬((cP env line ts).length !=ts.length||(cP env line ts).eraseDups.length !=(cP env line ts).length)=true):lH env (.Tuple ts k p) (.Tuple vs k2 p2) (pure (some (cP env line ts))):=by
 have l:=(GL (fun y=>absurd ((GL h1).1.symm.trans y) (nofun:false≠true))).1
 refine .inr ⟨ts,k,p,vs,k2,p2,_,rfl,rfl,rfl,?_,AV (GL h3).1,AV (GL h3).2⟩
 cases q:ts.length==2 with
 |true=>exact .inl (eq_of_beq q)
 |false=>
  rw[q]at l
  exact .inr (eq_of_beq ((Bool.not_eq_false' _).mp l))
theorem rP{t e:Expr}(h:m8 t e=true):lH env t e (swappedStores [t] e env):=by
 induction t using bC with
 |Tuple ts k p=>induction e using bC with
  |Tuple vs k2 p2=>
   refine wZ (lH env _ _) (fun M=>my) fun h1=>wZ (lH env _ _) (fun M=>my) fun M=>wZ (lH env _ _) (fun M=>my) fun h3=>wZ (lH env _ _) (fun M=>my) fun h4=>wZ (lH env _ _) (fun h5=> ?_) fun M=>Gk h h1 h3
   have h:(!(vs.all (constantsAlone 8))||vs.all (foldedForSure 8))=true:=h
   rw[h5,(Bool.not_eq_true _).mp h4]at h
   exact nomatch h
  |_=>exact my
 |List=>induction e using bC with
  |Tuple=>exact nomatch h
  |_=>exact my
 |_=>exact my
def Fy(env:Env)(x:Str)(t:Expr):Prop:=∃p,t= .Name x p∧env.kindOf x=some .local
theorem Kk{x:Str}{t:Expr}(h:(none:Option Str)=some x):Fy env x t:=nomatch h
theorem t4{line:Nat}{t:Expr}{x:Str}(h:t5 env line t=some x):Fy env x t:=by
 cases t with
 |Name id p=>
  have h:(if(env.kindOf id==some .local&&p.line==line)=true then some id else none)=some x:=h
  cases q:env.kindOf id==some .local&&p.line==line with
  |false=>rw[q]at h;exact nomatch h
  |true=>
   rw[q]at h
   cases h
   exact⟨p,rfl,eq_of_beq (aM.mp q).1⟩
 |_=>exact Kk h
theorem CS{line:Nat}{ts:List Expr}(h:(cP env line ts).length=ts.length): ∃xs:List (Str×Pos),ts=xs.map (fun p=>Expr.Name p.1 p.2)∧cP env line ts=xs.map (·.1)∧∀p∈xs,env.kindOf p.1=some .local:=by
 induction ts with
 |nil=>exact⟨[],rfl,rfl,fun M m=>nomatch m⟩
 |cons t ts ih=>
  have le:(cP env line ts).length≤ts.length:=List.length_filterMap_le _ _
  cases hx:t5 env line t with
  |none=>
   rw[show cP env line (t::ts)=cP env line ts from List.filterMap_cons_none hx]at h
   exact absurd h (cR (Nat.lt_succ_of_le le))
  |some x=>
   have e:cP env line (t::ts)=x::cP env line ts:=List.filterMap_cons_some hx
   rw[e]at h ⊢
   refine(ih (Nat.succ.inj h)).elim fun xs zz=>zz.elim fun e1 zz=>zz.elim fun e2 e3=> ?_
   obtain⟨p,rfl,hk⟩:=t4 hx
   exact⟨(x,p)::xs,congrArg (_:: ·) e1,congrArg (x:: ·) e2,fun q m=>by cases m with |head=>exact hk|tail _ m=>exact e3 q m⟩
theorem kX{x:Str}{v:V}{K:Hp→Prop}(hl:Γ.names.lookup x=some .local):eM Γ x v hp K↔∃l,hp[Γ.fr]? =some (.loc l)∧K (hp.set Γ.fr (.loc (m4 x v l))):=by
 unfold eM
 rw[hl]
 exact⟨fun h=>ng h fun l e h=>⟨l,e,h⟩,fun⟨l,e,h⟩=>by rw[e];exact h⟩
theorem C7{l:List (Str×V)}(e:hp[Γ.fr]? =some (.loc l))(o:AO):(hp.set Γ.fr o)[Γ.fr]? =some o:=List.getElem?_set_self (au.mp e).1
theorem R.locCongr{fr:Nat}{l1 l2:List (Str×V)}(Y:R B W (hp.set fr (.loc l1)) s)(h: ∀x,l1.lookup x=l2.lookup x):R B W (hp.set fr (.loc l2)) s:=by
 by_cases hl:fr<hp.length
 ·have q:(hp.set fr (.loc l1))[fr]? =some (.loc l1):=List.getElem?_set_self hl
  have hw:fr<W.own.length:=by rw[Y.len,List.length_set];exact hl
  have hn:W.own[fr]? =some W.own[fr]:=aR hw
  obtain⟨m,hns,rm⟩:jH s.heap W W.own[fr] l1:=Y.objs fr _ _ hn q
  have x:tP W.own[fr] s s:=⟨fun M M M e=>e,(Y.objs fr _ _ hn q).alive,rfl,rfl⟩
  have z:=Y.write x hn (Y.offAt hn q nofun) (o':= .loc l2) (jH.mk m hns fun y w e=>rm y w ((h y).trans e)) fun M=>⟨_,rfl⟩
  rwa [List.set_set]at z
 ·rw[List.set_eq_of_length_le (bY.mp hl)]at Y ⊢
  exact Y
noncomputable def pn(ps:List (Str×V)):List Str:=ps.map fun p=>p.1
noncomputable def yh(ps:List (Str×V)):List V:=ps.map fun p=>p.2
noncomputable def up(ps l:List (Str×V)):List (Str×V):=ps.foldl (fun l p=>m4 p.1 p.2 l) l
theorem lq{z:Str}: ∀{ps l:List (Str×V)},(up ps l).lookup z=(ps.reverse.lookup z).or (l.lookup z)
 |[],_=>rfl
 |p::ps,l=>by
  show(up ps (m4 p.1 p.2 l)).lookup z=_
  rw[lq,jw,List.reverse_cons,List.lookup_append,Option.or_assoc,cz]
  exact congrArg _ (by cases z==p.1<;>rfl)
theorem qF{z:Str}: ∀{ps:List (Str×V)},(pn ps).Nodup→ps.reverse.lookup z=ps.lookup z
 |[],_=>rfl
 |p::ps,h=>by
  have h:=List.nodup_cons.mp h
  rw[List.reverse_cons,List.lookup_append,qF h.2,cz,cz]
  induction q:z==p.1 using ah with
  |false=>exact Option.or_none
  |true=>
   have n:ps.lookup z=none:=List.lookup_eq_none_iff.mpr fun x m=>bne_iff_ne.mpr fun e=>h.1 (by show p.1∈_;rw[←eq_of_beq q,e];exact List.mem_map_of_mem m)
   rw[n]
   rfl
theorem AF: ∀(n:Nat) {l:List Str},l.length≤n→l.eraseDups.length≤l.length∧(l.eraseDups.length=l.length→l.Nodup)
 |_,[],_=>⟨av _,fun M=> .nil⟩
 |0,_::_,h=>absurd h (Nat.not_succ_le_zero _)
 |n+1,a::l,h=>by
  have f:=List.length_filter_le (fun b=> !b==a) l
  have i:=AF n (ad f (Nat.le_of_succ_le_succ h))
  rw[List.eraseDups_cons]
  refine⟨cM (ad i.1 f),fun e=> ?_⟩
  have e:=Nat.succ.inj e
  have fl:=cK f (ad (aC e.symm) i.1)
  have al:=List.length_filter_eq_length_iff.mp fl
  rw[List.filter_eq_self.mpr al]at i e
  exact List.nodup_cons.mpr ⟨fun m=>(by have q:=al a m;rw[beq_self_eq_true]at q;exact bh q),i.2 e⟩
theorem sL: ∀{xs:List (Str×Pos)} {v:V} {hp:Hp} {K:Hp→Prop} {vs:List Value} {l:List (Str×V)},jY Γ (xs.map fun p=> .Name p.1 p.2) v hp K→(∀p∈xs,Γ.names.lookup p.1=some .local)→fJ W vs v→hp[Γ.fr]? =some (.loc l)→
  ∃ps:List (Str×V),pn ps=xs.map (·.1)∧dD W vs (yh ps)∧K (hp.set Γ.fr (.loc (up ps l)))
 |[],v,hp,K,vs,l,h,_,rs,q=>qe (C:=fun v=>fJ W vs v→∃ps:List (Str×V),pn ps=[]∧dD W vs (yh ps)∧K (hp.set Γ.fr (.loc (up ps l)))) h (fun h rs=>by
   obtain rfl:vs=[]:=rs
   refine⟨[],rfl,.nil,?_⟩
   obtain⟨lt,e⟩:=au.mp q
   rw[show hp.set Γ.fr (.loc (up [] l))=hp from e▸List.set_getElem_self lt]
   exact h) rs
 |x::xs,v,hp,K,vs,l,h,hk,rs,q=>jX (C:=fun v=>fJ W vs v→∃ps:List (Str×V),pn ps=x.1::xs.map (·.1)∧dD W vs (yh ps)∧K (hp.set Γ.fr (.loc (up ps l)))) (show It v _ from h) (fun u r h rs=>by
   refine fM.elim (C:=fun vs=>∃ps:List (Str×V),pn ps=x.1::xs.map (·.1)∧dD W vs (yh ps)∧K (hp.set Γ.fr (.loc (up ps l)))) rs fun a t r1 rs=> ?_
   obtain⟨l',q',h⟩:=(kX (hk x (.head _))).mp h
   cases q'.symm.trans q
   obtain⟨ps,e1,e2,h⟩:=sL h (fun p m=>hk p (.tail _ m)) rs (C7 q _)
   rw[List.set_set]at h
   exact⟨(x.1,u)::ps,congrArg (x.1:: ·) e1,.cons r1 e2,h⟩) rs
theorem oR: ∀{ps:List (Str×V)} {as:List Value} {W:Wd} {hp:Hp} {s:ag} {l:List (Str×V)} {Q:Unit→ag→Prop},(∀x∈pn ps,Γ.names.lookup x=some .local)→dD W as (yh ps)→hp[Γ.fr]? =some (.loc l)→cj B n Γ A W env hp s→
  (∀W' s',Le B W s W' s'→R B W' (hp.set Γ.fr (.loc (up ps l))) s'→Q () s')→ar (model B.prog B.w) A (assignInOrder ((pn ps).map fun n=>bindName env n) as) Q E s
 |[],as,W,hp,s,l,Q,_,_,q,Y,hQ=>by
  obtain⟨lt,e⟩:=au.mp q
  exact ao (hQ W s (.refl ..) (by rw[show hp.set Γ.fr (.loc (up [] l))=hp from e▸List.set_getElem_self lt];exact Y.relH))
 |p::ps,as,W,hp,s,l,Q,hk,rs,q,Y,hQ=>bI.inv (C:=fun as=>ar (model B.prog B.w) A (assignInOrder ((pn (p::ps)).map fun n=>bindName env n) as) Q E s) rs fun a t r1 rs=>aa (aU (wpAny_bindName (eW (x:=p.1) (v:=p.2) (K:=fun hp1=>hp1=hp.set Γ.fr (.loc (m4 p.1 p.2 l))) ((kX (hk _ (.head _))).mpr ⟨_,q,rfl⟩) Y r1 fun W1 hp1 s1 e x1 R1=>by
   have e:hp1=hp.set Γ.fr (.loc (m4 p.1 p.2 l)):=e
   subst e
   exact oR (fun x m=>hk x (.tail _ m)) (bI.mono (fun M M=>a7.tr x1.toTr) rs) (C7 q _) (Y.le x1 R1) fun W2 s2 x2 R2=>hQ W2 s2 (x1.trans x2) (by rw[List.set_set]at R2;exact R2))))
theorem rO{ts:List Expr}{k line:Nat}{pos:Pos}{v:V}{va:Value}{K:Hp→Prop}{Q:Flow→ag→Prop}(h:iK Γ (.Tuple ts k pos) v hp K)(Y:cj B n Γ A W env hp s)(rv:a7 W va v)
  (hn:ts.length=2∨ts.length=3) (hl:(cP env line ts).length=ts.length) (hd:(cP env line ts).eraseDups.length=(cP env line ts).length) (stores:List (Value→Sem Unit))
  (hQ: ∀W' hp' s',K hp'→Le B W s W' s'→R B W' hp' s'→Q .next s'):ar (model B.prog B.w) A (assignStores env va (some (cP env line ts)) stores) Q E s:=by
 obtain⟨xs,e1,e2,e3⟩:=CS hl
 have h:jY Γ ts v hp K:=h
 obtain⟨a,items,m,rfl,hx,_,rs⟩:=oB h Y.relH rv
 have nd:=(AF _ (av _)).2 hd
 rw[e2]at nd
 subst e1
 have hk: ∀p∈xs,Γ.names.lookup p.1=some .local:=fun p hp=>by rw[←Y.relE.names];exact e3 p hp
 obtain⟨l,q⟩: ∃l,hp[Γ.fr]? =some (.loc l):=by
  rcases xs with _|⟨x,xs⟩
  ·exact hn.elim (fun e=>nomatch e) fun e=>nomatch e
  ·exact jX (C:=fun M=>∃l,hp[Γ.fr]? =some (.loc l)) (show It v _ from h) fun u r h=>((kX (hk x (.head _))).mp h).elim fun l z=>⟨l,z.1⟩
 refine(sL h hk rs q).elim fun ps zz=>zz.elim fun p1 zz=>zz.elim fun p2 hK=> ?_
 have hsz:items.size=(cP env line (xs.map fun p=>Expr.Name p.1 p.2)).length:=by rw[e2,←p1,←aN,p2.length];exact(aE _).trans (aE _).symm
 unfold assignStores
 refine aa (wpAny_rule (aa ?_))
 rw[←hsz]
 refine wpAny_unpackItems_tuple Y.room.handled ⟨_,hx,rfl,_,rfl⟩ fun h' he=> ?_
 have gr:=qT (t:=s.toks) he
 rw[e2,←p1,show(pn ps).reverse=pn ps.reverse from List.map_reverse.symm]
 refine aa (oR (ps:=ps.reverse) (fun x mx=> ?_) ?_ q (Y.le gr.le (Y.relH.grow gr)) fun W' s' x R'=>ao (hQ _ _ _ hK (gr.le.trans x) (R'.locCongr fun z=> ?_)))
 ·rw[show pn ps.reverse=(pn ps).reverse from List.map_reverse,List.mem_reverse,p1]at mx
  obtain⟨p,mp,rfl⟩:=aP.mp mx
  exact hk p mp
 ·rw[show yh ps.reverse=(yh ps).reverse from List.map_reverse]
  exact p2.reverse
 ·rw[lq,lq,List.reverse_reverse,qF (p1▸nd)]
end
noncomputable def wC(scope:Scope):Bool:=cond (scope.kind== .function) (cond scope.isGenerator false (cond scope.isCoroutine false (scope.names.lookup (ae "__classdict__")).isNone)) false
def FJ(all:List Value)(va:Value):Nat ⊕ V→Prop
 | .inl j=>all[j]? =some va
 | .inr v=>∀W,a7 W va v
def pU(B:bW)(fd:FuncData)(b:Nat×List Str×List (Str×(Nat ⊕ V))):Prop:=∀(s:ag) (bw:List Value) (kwv:List (Str×Value)),(∀a o,B.h0.get? a=some o→a ∉ B.tabs→s.heap.get? a=some o)→bw.length=b.1→kwv.map (·.1)=b.2.1→
 ∃vbs,BindsTo s fd ⟨bw,kwv⟩ vbs∧bI (fun p q=>p.1=q.1∧FJ (bw++kwv.map (·.2)) p.2 q.2) vbs b.2.2
inductive Oq(B:bW)(a:aB)(f:Fn):Prop
 |mk (o:Obj) (fd:FuncData) (ho:B.h0.get? a=some o) (ht:a ∉ B.tabs) (hd:o.data= .func fd) (hb:fd.body=f.code.body) (hs:fd.scope=f.code.scope) (hglob:fd.globals=bb) (hbui:fd.builtins=cC) (hclo:fd.closure=[]) (ok:wC f.code.scope=true)
  (hcode: ∀F:Fz,(∀a o,B.h0.get? a=some o→a ∉ B.tabs→F a=some o)→g5 F fd.code) (hmk:f.mks=true→∃c P,fd.code= .ref c∧(c,P)∈B.ct) (hbind: ∀b∈f.binds,pU B fd b)
structure FI(fc:eB):Prop where
 ok:wC fc.scope=true
 bind: ∀(fd:FuncData) (s:ag) (bw:List Value),fd.params=fc.params→fd.defaults= .none→fd.kwdefaults= .none→bw.length=fc.params.args.length→
  ∃vbs,BindsTo s fd ⟨bw,[]⟩ vbs∧vbs.map (·.1)=fc.params.args.map (·.arg)∧vbs.map (·.2)=bw
structure kN(B:bW)(G:fS):Prop extends GlbG B G where
 fn: ∀a f,G.fn a=some f→Oq B a f
 clos: ∀t fc,G.code t=some fc→FI fc
section
variable{B:bW}{G:fS}{C:cG}{r:Ev}{n:Nat}{Γ:Cx}{A:bv}{W W' W0 W1 W2:Wd}{env cenv:Env}{hp hp' hp2:Hp}{s s' s0 s1 s2:ag}{ds:Ds}{E:Value→ag→Prop}{X:eG}{K:KV}{Q:Value→ag→Prop}
noncomputable def Wd.fr(W:Wd)(l:List aB):Wd:=⟨W.own,W.F,l⟩
theorem Wd.trFr{l:List aB}:Tr W (W.fr l):=⟨fun M M e=>e,fun M M e=>e⟩
theorem R.fr(Y:R B W hp s){l:List aB}(h1: ∀L∈l,nL s.heap L∧L ∉ B.tabs∧W.F L=none)(h2: ∀(n:Nat) a,W.own[n]? =some a→a∈l→∃l,hp[n]? =some (.loc l)):R B (W.fr l) hp s:=
 ⟨Y.sub,Y.base,Y.len,Y.nodup,Y.tab,Y.off,fun n a o h1 h2=>(Y.objs n a o h1 h2).tr Wd.trFr rfl,Y.tabs,Y.gens,Y.os,h1,h2⟩
theorem R.push{L:aB}{k:Nat}{l:List (Str×V)}(Y:R B W hp s)(hn:W.own[k]? =some L)(e:hp[k]? =some (.loc l)):R B (W.fr (L::W.frs)) hp s:=
 Y.fr (fun K m=>(aX.mp m).elim (fun z=>z▸⟨jH.frm (Y.objs k L _ hn e),Y.tab L (c8 hn),Y.offAt hn e nofun⟩) (Y.frs K))
  fun n a h m=>(aX.mp m).elim (fun z=>(List.getElem?_inj (au.mp hn).1 Y.nodup).mp (hn.trans (z▸h.symm))▸⟨l,e⟩) (Y.frO n a h)
theorem Le.pop{L:aB}(x:Le B (W.fr (L::W.frs)) s W' s')(hL:L∈W.own):Le B W s (W'.fr W.frs) s':=
 ⟨⟨x.own,x.F⟩,rfl,x.newO,x.newF,fun a o e h1 h2 h3=>x.keep a o e h1 h2 fun m=>(aX.mp m).elim (fun z=>h1 (z▸hL)) h3,fun K m=>x.frk K (.tail _ m),x.live,x.gens⟩
theorem Fa{RR:Result→ag→Prop}{a:aB}{args:Args}{o:Obj}{fd:FuncData}(hroom:A.depth<recursionLimit)(ho:s.heap.get? a=some o)(hd':o.data= .func fd)(hco:fd.scope.isCoroutine=false)(hgen:fd.scope.isGenerator=false)(Y:R B W hp s)(hcode:g5 W.F fd.code)
  (h: ∀q,ar (model B.prog B.w) A.in1 (bindArgs fd args) (fun binds s₁=>ar (model B.prog B.w) A.in1 (newFunctionEnv fd.scope fd.globals fd.closure binds q (some a) fd.code none fd.builtins)
    (fun env s₂=>s₂.heap.NoLimit∧dX (model B.prog B.w) A (match fd.body with | .stmts b=> .func b env| .expr e=> .expr e env) RR s₂) (fun e s'=>RR (.error e) s') s₁) (fun e s'=>RR (.error e) s') s):
  dX (model B.prog B.w) A (.call (.ref a) args) RR s:=by
 refine codeAny_of_tree ?_
 show ar _ A.in1 (callAny (.ref a) args) _ _ s
 refine aa (m:=load a) (wpAny_load ho ?_)
 rw[hd']
 generalize hc:fd.code=cv at hcode
 obtain⟨c,oc,vs,tq,q,hoc,hdc,hq⟩:=hcode
 show ar _ _ (callFunction a fd args) _ _ _
 unfold callFunction
 rw[hc,hco,hgen]
 have h:=h (q++".<locals>.")
 rw[hc]at h
 refine aa (m:=field (.ref c) 1) (wpAny_field (Y.sub _ _ hoc) hdc hq (aa (ao ?_)))
 exact aa (bF h (fun binds s₁ h₁=>aa (bF h₁ (fun env s₂ h₂=>aa (wpAny_enterFrame h₂.1 hroom
  (ao (ai (by rcases fd.body with _|_<;>rfl) h₂.2)))) fun M M h'=>h')) fun M M h'=>h')
theorem sF{binds:List (Str×V)}: ∀{vbs:List (Str×Value)} {W:Wd} {s:ag} {hp:Hp} {K:Hp→Prop} {Q:PUnit→ag→Prop} {f:Str×Value→PUnit→Sem (ForInStep PUnit)},(∀n v u,f (n,v) u=(do storeName env n v;pure (.yield ⟨⟩)))→
  gQ Γ binds hp K→bI (fun p q=>p.1=q.1∧a7 W p.2 q.2) vbs binds→cj B n Γ A W env hp s→(∀W' hp' s',K hp'→Le B W s W' s'→R B W' hp' s'→Q ⟨⟩ s')→ar (model B.prog B.w) A (forIn vbs ⟨⟩ f) Q E s:=by
 induction binds with
 |nil=>
  intro vbs W s hp K Q f hf h r Y hQ
  refine r.inv0 (C:=fun vbs=>ar (model B.prog B.w) A (forIn vbs ⟨⟩ f) Q E s) ?_
  rw[List.forIn_nil]
  exact ao (hQ _ _ _ h (.refl ..) Y.relH)
 |cons b binds ih=>
  intro vbs W s hp K Q f hf h r Y hQ
  refine r.inv (C:=fun vbs=>ar (model B.prog B.w) A (forIn vbs ⟨⟩ f) Q E s) fun p w hp r=> ?_
  obtain⟨x,va⟩:=p
  rw[List.forIn_cons,hf]
  refine aa (aa (eW (K:=fun hp=>gQ Γ binds hp K) (by rw[show x=b.1 from hp.1];exact h) Y hp.2 fun W1 hp1 s1 h1 x1 R1=>ao ?_))
  exact ih hf h1 (r.mono fun M M q=>⟨q.1,q.2.tr x1.toTr⟩) (Y.le x1 R1) fun W2 hp2 s2 h2 x2 R2=>hQ _ _ _ h2 (x1.trans x2) R2
theorem j3(Y:R B W hp s)(g:iy B):s.heap.NoLimit:=by
 refine g.lim.elim fun mc zz=>zz.elim fun h zz=>zz.elim fun h2 ht=> ?_
 exact⟨mc,Y.oldNs h ht,h2⟩
theorem GJ{scope:Scope}(ok:wC scope=true):scope.kind= .function∧scope.isGenerator=false∧scope.isCoroutine=false∧scope.names.lookup (ae "__classdict__")=none:=by
 unfold wC at ok
 rcases h1:scope.kind== .function with _|_<;>rw[h1]at ok
 ·injection ok
 rcases h2:scope.isGenerator with _|_<;>rw[h2]at ok
 ·rcases h3:scope.isCoroutine with _|_<;>rw[h3]at ok
  ·exact⟨eq_of_beq h1,rfl,rfl,Option.isNone_iff_eq_none.mp ok⟩
  ·injection ok
 ·injection ok
abbrev Om(W:Wd):List (Str×Value)→List (Str×V)→Prop:=bI fun p q=>p.1=q.1∧a7 W p.2 q.2
theorem pO{names:List Str}{k:Nat}{l:List (Nat×List Str×List (Str×(Nat ⊕ V)))}{b:List (Str×(Nat ⊕ V))}(h:eU k names l=some b): ∃x∈l,x.1=k∧x.2.1=names∧x.2.2=b:=by
 induction l with
 |nil=>injection h
 |cons x l ih=>
  replace h:cond (aS k x.1) (cond (names==x.2.1) (some x.2.2) (eU k names l)) (eU k names l)=some b:=h
  rcases h1:aS k x.1 with _|_<;>rw[h1]at h
  ·refine(ih h).elim fun y zz=>zz.elim fun hy r=> ?_
   exact⟨y,.tail _ hy,r⟩
  ·rcases h2:names==x.2.1 with _|_<;>rw[h2]at h
   ·obtain⟨y,hy,r⟩:=ih h
    exact⟨y,.tail _ hy,r⟩
   ·exact⟨x,.head _,(aV h1).symm,(eq_of_beq h2).symm,af h⟩
theorem pE{args:List V}{kw:List (Str×V)}{all:List Value}(ra:dD W all (args++kw.map Prod.snd)){vbs:List (Str×Value)}{l:List (Str×(Nat ⊕ V))}(r:bI (fun p q=>p.1=q.1∧FJ all p.2 q.2) vbs l): ∀{bs:List (Str×V)},fT args kw l=some bs→Om W vbs bs:=by
 induction r with
 |nil=>intro bs h;obtain rfl:=af h;exact .nil
 | @cons p q vbs l a _ ih=>
  intro bs h
  refine jD h fun v h1 h=> ?_
  refine kP h fun rest h2 z1z=> ?_
  obtain rfl:=z1z
  refine .cons ⟨a.1,?_⟩ (ih h2)
  have a2:=a.2
  induction hq:q.2 using Sum.casesOn with
  |inl j=>
   rw[hq]at h1 a2
   refine(ra.get h1).elim fun w zz=>zz.elim fun e1 e2=> ?_
   exact af (e1.symm.trans a2)▸e2
  |inr u=>
   rw[hq]at h1 a2
   exact af h1▸a2 W
theorem pP{RR:Result→ag→Prop}{K:Hp→Prop}(g:iy B){fc:eB}{mks:Bool}{fd:FuncData}{a:aB}{o:Obj}{args:Args}{cl:List (Str×Nat)}{binds:List (Str×V)}(ho:s.heap.get? a=some o)(hd:o.data= .func fd)(hb:fd.body=fc.body)(hs:fd.scope=fc.scope)(hcode:g5 W.F fd.code)
  (hglob:fd.globals=bb) (hbui:fd.builtins=cC) (hclo:jh W fd.closure cl) (ok:wC fc.scope=true) (hmk:mks=true→∃c P,fd.code= .ref c∧(c,P)∈B.ct)
  (hbind: ∃vbs,BindsTo s fd args vbs∧bI (fun p q=>p.1=q.1∧a7 W p.2 q.2) vbs binds)
  (h:gQ ⟨fc.scope.names,fI (hp.length+1) (cu fc.scope.names) cl,hp.length,mks⟩ binds (hp++ .loc (gq fc.scope.names)::(cu fc.scope.names).map fun M=> .cell .unb) K) (hr:jg A (n+2) W.frs) (Y:R B W hp s)
  (k: ∀{env:Env} {W5:Wd} {hp5:Hp} {s5:ag},K hp5→jA (A.deeper env) env→env.scope.kind= .function→cj B (n+1) ⟨fc.scope.names,fI (hp.length+1) (cu fc.scope.names) cl,hp.length,mks⟩ (A.deeper env) W5 env hp5 s5→
   (∀{W':Wd} {hp':Hp} {s':ag},Le B W5 s5 W' s'→R B W' hp' s'→Le B W s (W'.fr W.frs) s'∧R B (W'.fr W.frs) hp' s')→dX (model B.prog B.w) A (match fc.body with | .stmts b=> .func b env| .expr e=> .expr e env) RR s5):
  dX (model B.prog B.w) A (.call (.ref a) args) RR s:=by
 refine(GJ ok).elim fun hkind zz=>zz.elim fun hgen zz=>zz.elim fun hco hcd=> ?_
 refine hbind.elim fun vbs zz=>zz.elim fun hbt hrel=> ?_
 refine Fa (aj (ad (aG _ _) (aG _ _)) hr.depth) ho hd (hs▸hco) (hs▸hgen) Y hcode fun q=>hbt _ _ _ _ ?_
 simp only[newFunctionEnv,Option.isSome_none,Bool.false_eq_true,if_false]
 refine aa (wpAny_alloc ?_)
 have hL0:s.heap.get? s.heap.objs.size=none:=cc (av _)
 have g1:dP s {s with heap:=s.heap.push {cls:= .type "frame",data:= .dict #[]}}:= .push s _ s.toks
 have Y1:=Y.add (o':= .loc (gq fc.scope.names)) g1 hL0 (jH.mk (fun M=>none) (dq.Ns.new s.heap (.type "frame")) fun x u e=> .inl (kU e))
 refine aa (wpAny_layCells _ (fun name kind cells=>by rcases hkc:kind==NameKind.cell with _|_<;>simp) _ _ _ _ ?_)
 rw[hs]
 refine(nk (names:=fc.scope.names) Y1 (hclo.tr .add)).elim fun W4 zz=>zz.elim fun x4 zz=>zz.elim fun Y4 c4=> ?_
 have es:({s with heap:=s.heap.push {cls:= .type "frame",data:= .dict #[]}}:ag).heap.objs.size=s.heap.objs.size+1:=dn ..
 rw[es,ak]at c4
 rw[es]
 rw[aQ]at Y4
 have x04:=(g1.leAdd (W:=W) (B:=B) hL0).trans x4
 have hLat:W4.own[hp.length]? =some s.heap.objs.size:=x4.own _ _ Y.addAt
 have hLl:(hp++ .loc (gq fc.scope.names)::(cu fc.scope.names).map fun M=> .cell .unb)[hp.length]? =some (.loc (gq fc.scope.names)):=by rw[bA (av _),Nat.sub_self];rfl
 have stk: ∀env:Env,env.scope.kind= .function→env.frame=some s.heap.objs.size→PJ (A.deeper env) (s.heap.objs.size::W4.frs):=fun env h1 h2=>hr.stk.elim fun l q=>⟨env::l,bv.frames_deeper q.1,List.forall_mem_cons.mpr ⟨⟨fun w=>(nomatch h1.symm.trans w),_,h2,.head _⟩,fun e m=>⟨(q.2 e m).1,(q.2 e m).2.imp fun L w=>⟨w.1,.tail _ (x04.frs▸w.2)⟩⟩⟩⟩
 have stk0:PJ A.in1 (s.heap.objs.size::W4.frs):=hr.stk.imp fun l q=>⟨q.1,fun e m=>⟨(q.2 e m).1,(q.2 e m).2.imp fun L w=>⟨w.1,.tail _ (x04.frs▸w.2)⟩⟩⟩
 have W4r:cj B (n+1) ⟨fc.scope.names,fI (hp.length+1) (cu fc.scope.names) cl,hp.length,mks⟩ A.in1 (W4.fr (s.heap.objs.size::W4.frs)) {scope:=fc.scope,locals:=s.heap.objs.size,globals:=fd.globals,cells:=cellsFrom (s.heap.objs.size+1) fc.scope.names fd.closure,qual:=q,func:=some a,code:=fd.code,frame:=some s.heap.objs.size,builtins:=fd.builtins}
   (hp++ .loc (gq fc.scope.names)::(cu fc.scope.names).map fun M=> .cell .unb) {s with heap:=pushCells (s.heap.push {cls:= .type "frame",data:= .dict #[]}) fc.scope.names}:=
  ⟨⟨hr.handled,(hr.less (cN _)).depth,iW (k:=40) hr.units (by decide),stk0⟩,⟨rfl,hkind,hglob,hbui,c4,hLat,hcd,hmk⟩,Y4.push hLat hLl⟩
 refine aa (sF (f:=fun x M=>do storeName _ x.1 x.2;pure (.yield ⟨⟩)) (fun M M M=>rfl) h (hrel.mono fun M M q=>⟨q.1,(q.2.tr x04.toTr).tr Wd.trFr⟩) W4r fun W5 hp5 s5 h5 x5 Y5=> ?_)
 refine ao ⟨j3 Y5 g,?_⟩
 rw[hb]
 exact k h5 (hr.stk.elim fun l q=>⟨l,bv.frames_deeper q.1,_,rfl⟩) hkind ⟨⟨hr.handled,iW (k:=4) hr.depth (by decide),iW (k:=40) (d:=3) hr.units (by decide),x5.frs▸stk _ hkind rfl⟩,W4r.relE.tr x5.toTr,Y5⟩ fun{W' hp' s'} x Ye=>by
  have q:Le B W s (W'.fr W4.frs) s'∧R B (W'.fr W4.frs) hp' s':=⟨x04.trans ((x5.trans x).pop (c8 hLat)),Ye.fr (fun K m=>Ye.frs K ((x5.trans x).frs▸ .tail _ m)) fun n a e m=>Ye.frO n a e ((x5.trans x).frs▸ .tail _ m)⟩
  exact x04.frs▸q
end
section
variable{B:bW}{G:fS}{C:cG}{r:Ev}{n:Nat}{Γ:Cx}{A:bv}{W W' W0 W1 W2:Wd}{env cenv:Env}{hp hp' hp2:Hp}{s s' s0 s1 s2:ag}{ds:Ds}{E:Value→ag→Prop}{X:eG}
noncomputable abbrev LG:String:="ZeroDivisionError"
theorem DN(g:GlbOk B G):fi B n (IT G) where
 ev {e Γ hp ds K A W env s Q E} h Y P:=by
  induction e using bC with
  |Constant c k p=>exact ny (K:=fun v hp=>K v hp ds) h Y.relH (P.at ds)
  |Name x p=>exact oT (K:=fun v hp=>K v hp ds) g h Y (P.at ds)
  |_=>exact h.elim
 ts h:=h.elim
 lc h:=h.elim
 ex h:=h.elim
theorem R.slots(r:R B W hp s){h':dq}(k: ∀a o,a ∉ W.frs→s.heap.get? a=some o→h'.get? a=some o)(u: ∀L∈W.frs,xG s.heap h' L):Le B W s W {s with heap:=h'}∧R B W hp {s with heap:=h'}:=by
 refine⟨⟨.refl W,rfl,fun M h=> .inl h,fun M M h=> .inl h,fun a o e M M h=>k a o h e,fun L m M=>u L m,fun a z=> ?_,fun M M e=>e⟩,
  r.step (s':={s with heap:=h'}) (· ∈W.frs) (fun a m=>⟨.inl (r.frF a m),(r.frs a m).2.1⟩) (fun a o m e=>k a o m e) rfl rfl (fun M M e=>e) (fun M M=> .inl) r.len r.nodup r.tab r.off (fun n a o h1 h2=> ?_) rfl r.frF (fun L m M=>(u L m).frm (r.frs L m).1) r.frO⟩
 ·cases q:s.heap.get? a with
  |none=>rfl
  |some o=>
   by_cases m:a∈W.frs
   ·exact(u a m o q).elim fun sl e=>nomatch e.symm.trans z
   ·exact nomatch(k a o m q).symm.trans z
 ·have q:=r.objs n a o h1 h2
  by_cases m:a∈W.frs
  ·refine(r.frO n a h1 m).elim fun l hl=> ?_
   obtain rfl:=af (hl.symm.trans h2)
   exact jH.slot (.refl W) (u a m) q
  ·exact q.tr (.refl W) (q.alive.elim fun M e=>(k a _ m e).trans e.symm)
theorem mK(r:R B W hp s){h':dq}(hk: ∀b o,s.heap.get? b=some o→h'.get? b=some o)(as:List aB): ∀{l:List Env},(∀e∈l,e.scope.kind≠ .module∧∃L,e.frame=some L∧L∈W.frs)→(∀e∈l,∀a,e.frame=some a→a∈as)→h'.FunFrames (hideAll s.heap as) l
 |[],_,_=>trivial
 |e::l,h,hin=>by
  have q:=h e (.head _)
  refine q.2.elim fun L zz=>zz.elim fun hf m=> ?_
  refine((r.frs L m).1).elim fun o zz=>zz.elim fun ho hn=> ?_
  exact⟨q.1,⟨L,o,hf,hideAll_none _ (hin e (.head _) L hf),hk L o ho,hn⟩,mK r hk as (fun e m=>h e (.tail _ m)) fun e m=>hin e (.tail _ m)⟩
theorem CE(g:GlbOk B G){T:String}{x:Str}(hz:G.glob x=some (.val (.type T)))(hx:(x==ae "__debug__")=false)(k:env.scope.kind= .function)(hn:env.kindOf x=some .globalImplicit)(eg:env.globals=bb)(eb:env.builtins=cC){p:Pos}{Q:Value→ag→Prop}(Y:R B W hp s)(hq:Q (.type T) s):
  ar (model B.prog B.w) A (eval (.Name x p) env) Q E s:=by
 have e:eval (.Name x p) env=(do
  dI p
  if x==("__debug__":Str)then debugConstant else loadName env x):=rfl
 rw[e,show(x==("__debug__":Str))=false from hx,if_neg (by simp),gu k (.inl hn)]
 exact aa (aJ (g.glob x _ hz eg eb Y fun va rv=>(show va= .type T from rv)▸hq))
def A7(B:bW)(W:Wd)(s:ag)(W':Wd)(hp':Hp)(base:dq)(s':ag):Prop:=∀h9,base.StaysIn h9→s'.heap.UpToSlots h9→Le B W s W' {s' with heap:=h9}∧R B W' hp' {s' with heap:=h9}
theorem yu(g:kN B G)(hz:G.glob jv=some (.val (.type LG))){l:List Env}(hl:A.frames=some l){f:V}{args:List V}{va:Value}{bw:List Value}{K:Hp→Prop}(h:lT G args hp K f)(hr:jg A (n+2) W.frs)(Y:R B W hp s)(rf:a7 W va f)(rs:dD W bw args)
  (k: ∀W' hp' s' e a0 base,K hp'→A7 B W s W' hp' base s'→dq.FlyingW base l e (.type LG) a0 s'.heap→E (.ref e) s'):
  ∃a o fd,va= .ref a∧s.heap.get? a=some o∧o.data= .func fd∧∀Q:Value→ag→Prop,dX (model B.prog B.w) A (.call va ⟨bw,[]⟩) (xH Q E) s:=by
 cases h with |mk b fn bs t xp rp ip els rest hf hbs hbody hgl h=> ?_
 obtain rfl:=(show va= .ref b from rf)
 obtain⟨o,fd,ho,ht,hd,hb,hs,hglob,hbui,hclo,ok,hcode,hmk,hbind⟩:=g.fn b fn hf
 refine⟨b,o,fd,rfl,Y.old ho ht,hd,fun Q=> ?_⟩
 refine jD hbs fun q hq hp'=> ?_
 refine(pO hq).elim fun x zz=>zz.elim fun hx zz=>zz.elim fun x1 zz=>zz.elim fun x2 x3=> ?_
 refine(hbind x hx s bw [] (fun a o e h=>Y.old e h) (rs.length.trans x1.symm) x2.symm).elim fun vbs zz=>zz.elim fun hbt hrel=> ?_
 refine pP g.base (Y.old ho ht) hd hb hs (hcode _ Y.base) hglob hbui (hclo▸bI.nil) ok hmk ⟨vbs,hbt,pE (kw:=[]) (rs.append bI.nil) (x3▸hrel) hp'⟩ h hr Y fun{env W5 hp5 s5} h5 tp hk Y5 pop=> ?_
 rw[hbody]
 refine tp.elim fun l' hfr=> ?_
 refine hfr.elim fun hfr zz=>zz.elim fun L hL=> ?_
 have el:l'=l:=by
  have e:=hfr.symm.trans (bv.frames_deeper hl)
  injection e with e
  injection e
 subst el
 refine codeAny_func (bQ ?_)
 rw[exec_If]
 refine aa (aJ (aa (oE g.toGlbA (DN g.toGlbOk) h5 Y5 fun W6 hp6 s6 c d6 h6 x6 R6=> ?_)))
 obtain⟨rfl,h6⟩:=h6
 refine bQ (Raise_classB hr.handled excClass_ZeroDivisionError excClass_ZeroDivisionError.self (CE g.toGlbOk hz rfl hk (Y5.relE.name hgl) Y5.relE.glob Y5.relE.bui R6 ⟨rfl,rfl⟩) fun h7 e hn=> ?_)
 obtain⟨ob,tb,he,hcls,hdt⟩:=hn.there
 obtain⟨l2,hl2,st⟩:=Y5.room.stk
 obtain rfl:=af (hfr.symm.trans hl2)
 have st6: ∀e∈env::l',e.scope.kind≠ .module∧∃L,e.frame=some L∧L∈W6.frs:=x6.frs▸st
 have sub: ∀a∈(env::l').filterMap (·.frame),a∈W6.frs:=fun a m=>by
  refine(List.mem_filterMap.mp m).elim fun e zz=>zz.elim fun me hf=> ?_
  obtain⟨L,hL,mL⟩:=(st6 e me).2
  exact af (hL.symm.trans hf)▸mL
 have hen:(hideAll s6.heap ((env::l').filterMap (·.frame))).get? e=none:=by
  cases q:(hideAll s6.heap ((env::l').filterMap (·.frame))).get? e with
  |none=>rfl
  |some o=>exact nomatch hn.new.symm.trans (of_hideAll _ q)
 refine wpAny_leaving_firstW (a0:=tb) hfr (mK R6 hn.keeps ((env::l').filterMap (·.frame)) st6 fun e m a hf=>List.mem_filterMap.mpr ⟨e,m,hf⟩) hL he (fun b o hb=>hn.keeps b o (of_hideAll _ hb)) hen hdt rfl rfl fun h8 rJ=> ?_
 refine rJ.elim fun k1 zz=>zz.elim fun z1z zz=>zz.elim fun k3 k4=> ?_
 refine z1z.elim fun M zz=>zz.elim fun M k2=> ?_
 refine k (W6.fr W.frs) hp6 _ e tb _ h6 (fun h9 b9 u9=> ?_) ⟨k1,hen,k2,hcls▸k3⟩
 have z:=R6.slots (h':=h9) (fun a o na ho=>b9 a o (hideAll_get _ ho fun m=>na (sub a m))) fun L m o ho=>by
  obtain⟨o',ho',hno⟩:=(R6.frs L m).1
  obtain rfl:=af (ho.symm.trans ho')
  exact((dq.UpToSlots.of_keeps hn.keeps).trans (dq.UpToSlots.trans (show h7.UpToSlots h8 from k4) u9)) L o ho hno
 exact pop (x6.trans z.1) z.2
theorem wF(g:GlbOk B G){es:List Expr}{p:Pos}: ∀{vs:List V} {Q:List Value→ag→Prop},mF G Γ hp es=some vs→ow B Γ W env→R B W hp s→(∀l,dD W l vs→Q l s)→ar (model B.prog B.w) A (spliced (backTo p (starEach es env))) Q E s:=by
 induction es with
 |nil=>exact fun h M M hQ=>args_nil (hQ _ (af h▸ .nil))
 |cons e es ih=>
  intro vs Q h YE Y hQ
  induction e using bC with
  |Name x q=>
   refine jD (show(jd x (lg G Γ hp x)).bind (fun v=>(mF G Γ hp es).map (v:: ·))=some vs from h) fun v hv h=>kP h fun l hl e=> ?_
   subst e
   refine args_cons (DG g hv YE Y fun va r1=>ih hl YE Y fun l r2=>hQ _ (.cons r1 r2)) rfl
  |_=>injection h
theorem LA(g:kN B G)(hz:G.glob jv=some (.val (.type LG)))(Y:cj B n Γ A W env hp s)(tp:jA A env)(hn:Γ.names.lookup jv=some .globalImplicit){l:List Env}(hl:A.frames=some l){base:dq}{e:aB}{a0:Value}{np rp pos cp:Pos}{es:List Expr}{ck:Nat}{Q:Flow→ag→Prop}
  (F:A7 B W s W' hp' base s') (fl:dq.FlyingW base l e (.type LG) a0 s'.heap) {KK:V→Hp→Prop} (hc:fN (mF G Γ hp' es) fun vs=>bz vs.length bS=true∧KK (rN vs) hp') (hQ: ∀W2 hp2 s2 v va,KK v hp2→Le B W s W2 s2→R B W2 hp2 s2→a7 W2 va v→Q (.ret va) s2):
  ar (model B.prog B.w) A (noteFrame (.ref e) env) (fun M s₂=>ar (model B.prog B.w) A (setFlight (.ref e) none) (fun M s₃=>ar (model B.prog B.w) A (handleBy (.ref e) env [.ExceptHandler (some (.Name jv np)) none [.Return (some (.Tuple es ck cp)) rp] pos]) Q E s₃) E s₂) E s':=by
 refine tp.elim fun l2 zz=>zz.elim fun hl2 zz=>zz.elim fun L hL=> ?_
 obtain rfl:=af (hl2.symm.trans hl)
 refine wpAny_looks_onW hl2 hL fl fun h4 held u4=>wpAny_landsW held fun h5 fl5 u5=> ?_
 refine fl5.there.elim fun ob zz=>zz.elim fun hob hobc=> ?_
 refine wpAny_handleBy_builtin (X:=LG) (T:=LG) (b:=true) excClass_ZeroDivisionError.base PySem.F.notTuple_ZeroDivisionError excClass_ZeroDivisionError.self (CE g.toGlbOk hz rfl Y.relE.kind (Y.relE.name hn) Y.relE.glob Y.relE.bui (F h5 fl5.1 (u4.trans u5)).2 ⟨rfl,⟨ob,hob,hobc⟩,?_⟩)
 refine lands_againW fl5 fun h6 fl6 u6=> ?_
 have z:=F h6 fl6.1 ((u4.trans u5).trans u6)
 refine bO hc fun vs hvs hc=> ?_
 refine bQ (wpAny_Return_some (wpAny_Tuple (wF g.toGlbOk hvs (Y.relE.tr z.1.toTr) z.2 fun l r1=>⟨eO (r1.length▸aq hc.1),?_⟩)))
 exact zP (B:=B) (K:=KK) (Q:=fun va s=>Q (.ret va) s) z.2 r1 hc.1 hc.2 fun W2 hp2 s2 v va k x r rv=>hQ W2 hp2 s2 v va k (z.1.trans x) r rv
def Ij(B:bW)(A:bv)(env:Env)(hs:List ExceptHandler)(Q:Flow→ag→Prop)(E:Value→ag→Prop)(e:Value)(s:ag):Prop:=
 ar (model B.prog B.w) A (noteFrame e env) (fun M s₂=>ar (model B.prog B.w) A (setFlight e none) (fun M s₃=>ar (model B.prog B.w) A (handleBy e env hs) Q E s₃) E s₂) E s
theorem B0{hs:List ExceptHandler}{Q:Flow→ag→Prop}{e:Value}(h:Ij B A env hs Q E e s):notedBy (model B.prog B.w) A env (cameBackBy (model B.prog B.w) A env (Ij B A env hs Q E)) e s:=
 PassesOwn.looking (K:=fun e s₂=>ar (model B.prog B.w) A (setFlight e none) (fun M s₃=>ar (model B.prog B.w) A (handleBy e env hs) Q E s₃) E s₂) (E₁:=E) _ _ h
theorem nt{Q:Flow→ag→Prop}{vf:Flow}(h:Q vf s):(match(motive:=Flow→Prop) vf with | .next=>ar (model B.prog B.w) A (execs [] env) Q E s|f=>Q f s):=by
 induction vf using PySem.Flow.casesOn with
 |next=>exact wpAny_execs_nil h
 |_=>exact h
theorem kW{e:Expr}{line:Nat}(h:gW e=false):swapsWith e none line env=pure false:=by
 induction e using bC with
 |ListComp=>exact nomatch h
 |SetComp=>exact nomatch h
 |DictComp=>exact nomatch h
 |_=>rfl
theorem qf{f:Expr}{args:List Expr}{kw:List Keyword}{p:Pos}{t:Option Expr}{line:Nat}:swapsWith (.Call f args kw p) t line env=pure false:=by rcases t with _|_<;>rfl
theorem zr(g:kN B G)(O:fi B (n+1) r)(tp:jA A env)(h1n:1≤n){tt f:Expr}{args es:List Expr}{more:List bP}{k:Nat}{p2 p3 p6 p7 p8 p9:Pos}(hf:uF f=false)(ha:cQ args=true)(hz:G.glob jv=some (.val (.type LG)))(hn:Γ.names.lookup jv=some .globalImplicit){K:KF}{Q Q':Flow→ag→Prop}
  (h:Fj G r f args es Γ hp ds K) (Y:cj B (n+1) Γ A W env hp s) (P: ∀W' hp' s' u ua ds,K (.ret u) hp' ds→Le B W s W' s'→R B W' hp' s'→a7 W' ua u→Q (.ret ua) s'):
  ar (model B.prog B.w) A (execs (.Assign [tt] (.Call f args [] p2) p3::more) env) Q' (notedBy (model B.prog B.w) A env (cameBackBy (model B.prog B.w) A env (Ij B A env [.ExceptHandler (some (.Name jv p6)) none [.Return (some (.Tuple es k p7)) p8] p9] Q E))) s:=by
 refine bQ ?_
 rw[exec_Assign_arm]
 refine aa (aJ ?_)
 show ar _ _ (swapsWith (.Call f args [] p2) (some tt) p3.line env>>=_) _ _ _
 rw[qf]
 refine aa (ao ?_)
 refine IV cE ?_
 refine aa (mR hf (aa (O.ev h Y fun W6 hp6 s6 fv fva d6 h6 x6 R6 r6=>kh (ks:=[]) (first:=[]) (K':=fun vs kw hp ds=>iu kw (lT G vs hp (fun hp=>fN (mF G Γ hp es) fun vs=>bz vs.length bS=true∧K (.ret (rN vs)) hp ds) fv)) O ha rfl h6 (Y.le x6 R6) fun W7 hp7 s7 d7 vs kw' bw kwv h7 x7 R7 r7 e1 r8 M=> ?_)))
 obtain⟨h7,rfl,rfl⟩:=M4 h7 e1
 have x57:=x6.trans x7
 refine tp.elim fun l' zz=>zz.elim fun hl zz=>zz.elim fun L hL=> ?_
 obtain⟨m,rfl⟩:=Nat.exists_eq_add_of_le' h1n
 obtain⟨a,o,fd,rfl,ho,hd,hc⟩:=yu (E:=notedBy (model B.prog B.w) A env (cameBackBy (model B.prog B.w) A env (Ij B A env [.ExceptHandler (some (.Name jv p6)) none [.Return (some (.Tuple es k p7)) p8] p9] Q E))) g hz hl h7 (Y.room.fr x57.frs) R7 (r6.tr x7.toTr) r7 fun W8 hp8 s8 e a0 base h8 F8 fl8=>B0 (LA g hz (Y.le x57 R7) ⟨l',hl,L,hL⟩ hn hl F8 fl8 (KK:=fun v hp=>K (.ret v) hp d7) h8 fun W9 hp9 s9 u ua k9 x9 R9 r9=>P W9 hp9 s9 u ua d7 k9 (x57.trans x9) R9 r9)
 exact⟨fun ks M=> .func ho hd,wpAny_call (hc _)⟩
theorem xY(g:kN B G)(O:fi B (n+1) r)(tp:jA A env)(h1n:1≤n){body:List bP}{hs:List ExceptHandler}{p:Pos}{K:KF}{Q:Flow→ag→Prop}(h:Id G r Γ hp ds K body hs)(Y:cj B (n+1) Γ A W env hp s)(P:fR B W s K Q):
  ar (model B.prog B.w) A (exec (.Try body hs [] [] p) env) Q E s:=by
 cases h with |mk t it tt f args es more k p2 p3 p5 p6 p7 p8 p9 hf hset ha he hz hn h=> ?_
 refine wpAny_Try_except (bQ (wpAny_For ?_ (hV hset env)))
 refine O.ev h Y fun W1 hp1 s1 v va d1 h1 x1 R1 r1=>jZ h1 Y.room.handled R1 r1 fun l ok I s2 h2 it=> ?_
 refine mH (fun{x hp ds k W s va Q'} hk Y3 rv P3 L=> ?_) h2 (Y.le x1 R1) it fun W9 hp9 s9 f vf d9 k9 x9 R9 rf=>nt (Q:=fun f s=>match f with | .next=>ar (model B.prog B.w) A (execs [] env) Q E s|f=>Q f s) (nt (Q:=Q) (P W9 hp9 s9 f vf d9 k9 (x1.trans x9) R9 rf))
 refine gc (show iK Γ t x hp _ from hk) Y3 rv fun W4 hp4 s4 h4 x4 R4=> ?_
 refine h4.elim (fun h4=>fB O tp h4 (Y3.le x4 R4) (P3.after x4)) fun h4=> ?_
 exact zr g O tp h1n hf ha hz hn (Q:=Q) h4 (Y3.le x4 R4) fun W9 hp9 s9 u ua d9 k9 x9 R9 r9=>L _ _ (P3 _ _ _ (.ret u) (.ret ua) d9 k9 (x4.trans x9) R9 r9)
def tN(B:bW)(n:Nat)(L L2:Ev):Prop:=∃m m2,fi B (m+1) L∧fi B (m2+1) L2∧m+2≤n∧m2+2≤m+1
theorem vh:fi B n AS:=⟨fun h=>h.elim,fun h=>h.elim,fun h=>h.elim,fun h=>h.elim⟩
end
theorem nR{μ:Model}{Γ:PySem.Ctx}{p:Pos}{t:Sem Fin}{fs:List Frame}{s:ag}{e:End}{s':ag}(h:Runs μ Γ p t fs s e s'):s.toks≤s'.toks:=by
 induction h with
 |done|raise|yield=>exact av _
 |fresh _ ih=>exact ad (cN _) ih
 |call _ _ i1 i2|segRet _ _ i1 i2=>exact ad i1 i2
 |segGen _ _ i1 i2=>exact ad i1 i2
 |segSuspGen _ _ _ _ i1 i2=>exact ad i1 i2
 |resumeFresh _ _ _ _ i1 i2=>exact ad (m:=_) i1 i2
 |resumeSuspended _ _ _ _ i1 i2=>exact ad (m:=_) i1 i2
 |_=>first|assumption|(rename_i ih;exact ih)
theorem xW{μ:Model}{Γ:PySem.Ctx}{p:Pos}{g:Nat}{r:Resume}{s:ag}{res:GenResult}{s':ag}(h:Wakes μ Γ p g r s res s'):s.toks≤s'.toks:=by
 unfold Wakes at h
 split at h
 ·exact h.elim
 ·split at h
  ·obtain⟨e,s1,h1,_,_,rfl⟩:=h;have k:=nR h1;exact k
  ·obtain⟨_,rfl⟩:=h;exact av _
  ·obtain⟨_,rfl⟩:=h;exact av _
 ·obtain⟨e,s1,h1,_,_,rfl⟩:=h;have k:=nR h1;exact k
 ·obtain⟨_,rfl⟩:=h;exact av _
 ·obtain⟨_,rfl⟩:=h;exact av _
theorem L8{X:Type}{μ:Model}{Γ:PySem.Ctx}{Q:X→Pos→ag→Prop}{E:Value→Pos→ag→Prop}(n:Nat)(t:Sem X): ∀(p:Pos) (s:ag),n≤s.toks→
  Sem.wp μ Γ t (fun a p s=>n≤s.toks→Q a p s) (fun e p s=>n≤s.toks→E e p s) p s→Sem.wp μ Γ t Q E p s:=by
 induction t with
 |pure x=>exact fun p s h k=>k h
 |raise v=>exact fun p s h k=>k h
 |unsupported|finish|yield|fork|await|register=>exact fun M M M k=>k
 |fresh k ih=>exact fun p s h=>ih _ _ _ (Nat.le_succ_of_le h)
 |rule _ k ih|«at» _ k ih|alloc _ k ih|loadIfAlive _ k ih|point _ k ih|ask k ih|os _ _ k ih|handled _ k ih|newGen _ k ih|stack k ih|thread k ih=>exact fun p s h=>ih _ _ _ h
 |load a _ k ih|genState a k ih=>exact fun p s h z=>z.elim fun o z=>⟨o,z.1,ih _ _ _ h z.2⟩
 |update a _ f k ih|choose _ _ k ih=>exact fun p s h z=>⟨z.1,ih _ _ _ h z.2⟩
 |call c hd g l k ih=>exact fun p s h z=>z.elim fun r z=>z.elim fun s' z=>⟨r,s',z.1,ih _ _ _ (ad h (nR z.1)) z.2⟩
 |resume g r l k ih=>exact fun p s h z=>z.elim fun res z=>z.elim fun s' z=>⟨res,s',z.1,ih _ _ _ (ad h (xW z.1)) z.2⟩
theorem pV{X:Type}{μ:Model}{A:bv}{t:Sem X}{Q:X→ag→Prop}{E:Value→ag→Prop}{s:ag}(h:ar μ A t (fun a s'=>s.toks≤s'.toks→Q a s') (fun e s'=>s.toks≤s'.toks→E e s') s):ar μ A t Q E s:=
 fun Γ p hΓ=>L8 s.toks t p s (av _) (h Γ p hΓ)
section
variable{B:bW}{G:fS}{C:cG}{r r2 L L2:Ev}{n N:Nat}{Γ:Cx}{A:bv}{W W' W0 W1 W2 W6:Wd}{env cenv:Env}{hp hp' hp2 hp6:Hp}{s s' s0 s1 s2 s6:ag}{ds:Ds}{E:Value→ag→Prop}{X:eG}{msg:Str}{K:Hp→Prop}
noncomputable abbrev FQ:String:="ValueError"
abbrev Os(B:bW)(E:Value→ag→Prop)(W:Wd)(s:ag)(l:List Env)(msg:Str)(K:Hp→Prop):Prop:=∀W' hp' s' e t tk base,K hp'→A7 B W s W' hp' base s'→dq.FlyingW base l e (.type FQ) (.ref t) s'.heap→s'.heap.TupAt t [.str msg tk]→E (.ref e) s'
abbrev zL(B:bW)(A:bv)(E:Value→ag→Prop)(s:ag)(va:Value)(bw:List Value)(kwv:List (Str×Value)):Prop:=∃a o fd,va= .ref a∧s.heap.get? a=some o∧o.data= .func fd∧∀Q:Value→ag→Prop,dX (model B.prog B.w) A (.call va ⟨bw,kwv⟩) (xH Q E) s
theorem Gm{l:List Env}(st: ∀e∈l,e.scope.kind≠ .module∧∃L,e.frame=some L∧L∈W.frs): ∀a∈l.filterMap (·.frame),a∈W.frs:=fun a m=>by
 refine(List.mem_filterMap.mp m).elim fun e zz=>zz.elim fun me hf=> ?_
 refine((st e me).2).elim fun L zz=>zz.elim fun hL mL=> ?_
 exact af (hL.symm.trans hf)▸mL
theorem wS(tp:jA A env){l:List Env}(hfr:A.frames=some (env::l))(R6:R B W6 hp6 s6)(st: ∀e∈env::l,e.scope.kind≠ .module∧∃L,e.frame=some L∧L∈W6.frs){h7:dq}{e:aB}{tk:Tok}{Q:Unit→ag→Prop}(hx:dq.MadeExcOf s6.heap h7 e (.type FQ) [.str msg tk])
  (k: ∀s' t base,(∀h9,base.StaysIn h9→s'.heap.UpToSlots h9→Le B W6 s6 W6 {s' with heap:=h9}∧R B W6 hp6 {s' with heap:=h9})→dq.FlyingW base l e (.type FQ) (.ref t) s'.heap→s'.heap.TupAt t [.str msg tk]→Q () s'):
  ar (model B.prog B.w) A (leaving env (.ref e)) Q E {s6 with heap:=h7}:=by
 refine tp.elim fun l2 zz=>zz.elim fun hl2 zz=>zz.elim fun L hL=> ?_
 refine wpAny_leaves_madeW (base:=hideAll s6.heap ((env::l).filterMap (·.frame))) (h:=s6.heap) hfr hL (fun b o hb=>of_hideAll _ hb) (mK R6 (fun M M h=>h) _ st fun e m a hf=>List.mem_filterMap.mpr ⟨e,m,hf⟩) hx fun h8 t x1 x2 M x4=> ?_
 refine k {s6 with heap:=h8} t _ (fun h9 b9 u9=> ?_) x1 x2
 refine R6.slots (h':=h9) (fun a o na ho=>b9 a o (hideAll_get _ ho fun m=>na (Gm st a m))) fun L m o ho=> ?_
 obtain⟨o',ho',hno⟩:=(R6.frs L m).1
 obtain rfl:=af (ho.symm.trans ho')
 exact((dq.UpToSlots.of_keeps hx.keeps).trans (dq.UpToSlots.trans (show h7.UpToSlots h8 from x4) u9)) L o ho hno
theorem wy(g:kN B G)(O:fi B (n+1) r)(hz:G.glob qC=some (.val (.type FQ))){l:List Env}(hl:A.frames=some l){f:V}{args:List V}{va:Value}{bw:List Value}{kw:List (Str×V)}{kwv:List (Str×Value)}(h:nK G r args kw hp msg K f)(hr:jg A (n+2) W.frs)(Y:R B W hp s)(rf:a7 W va f)(rs:dD W bw args)
  (e1:kwv.map (·.1)=kw.map (·.1)) (r1:dD W (kwv.map (·.2)) (kw.map (·.2))) (k:Os B E W s l msg K):zL B A E s va bw kwv:=by
 cases h with |mk b fn bs t1 t2 s1 ck p1 p2 p3 p4 p5 p6 els1 els2 rest1 rest2 hf hbs hbody hgl h=> ?_
 obtain rfl:=(show va= .ref b from rf)
 obtain⟨o,fd,ho,ht,hd,hb,hs,hglob,hbui,hclo,ok,hcode,hmk,hbind⟩:=g.fn b fn hf
 refine⟨b,o,fd,rfl,Y.old ho ht,hd,fun Q=> ?_⟩
 refine jD hbs fun q hq hp'=> ?_
 refine(pO hq).elim fun x zz=>zz.elim fun hx zz=>zz.elim fun x1 zz=>zz.elim fun x2 x3=> ?_
 refine(hbind x hx s bw kwv (fun a o e h=>Y.old e h) (rs.length.trans x1.symm) (e1.trans x2.symm)).elim fun vbs zz=>zz.elim fun hbt hrel=> ?_
 refine pP g.base (Y.old ho ht) hd hb hs (hcode _ Y.base) hglob hbui (hclo▸bI.nil) ok hmk ⟨vbs,hbt,pE (rs.append r1) (x3▸hrel) hp'⟩ h hr Y fun{env W5 hp5 s5} h5 tp hk Y5 pop=> ?_
 rw[hbody]
 have hfr:(A.deeper env).frames=some (env::l):=bv.frames_deeper hl
 obtain⟨l2,hl2,st⟩:=Y5.room.stk
 obtain rfl:=af (hfr.symm.trans hl2)
 refine h5.elim fun ds h5=>codeAny_func (bQ ?_)
 rw[exec_If]
 refine aa (aJ (aa (O.ts h5 Y5 fun W6 hp6 s6 c d6 h6 x6 R6=> ?_)))
 obtain⟨rfl,h6⟩:=h6
 have Y6:=Y5.le x6 R6
 refine bQ (O.ex h6 tp Y6 fun W7 hp7 s7 f vf d7 h7 x7 R7 rf=> ?_)
 obtain⟨rfl,h7⟩:=h7
 have Y7:=Y6.le x7 R7
 cases vf with
 |next=> ?_
 |_=>exact rf.elim
 refine bQ ?_
 rw[exec_If]
 refine aa (aJ (aa (O.ts h7 Y7 fun W8 hp8 s8 c d8 h8 x8 R8=> ?_)))
 obtain⟨rfl,h8⟩:=h8
 have x58:=x6.trans (x7.trans x8)
 refine bQ (Raise_madeB PySem.F.excCall_ValueError PySem.F.excRaise_ValueError (Y7.room.fr x8.frs).handled (CE g.toGlbOk hz rfl hk (Y5.relE.name hgl) Y5.relE.glob Y5.relE.bui R8 ⟨rfl,args_cons (Constant_str (args_nil ⟨(show 1≤sizeLine from by decide),fun h9 e hn=> ?_⟩)) rfl⟩))
 refine wS (s6:={s8 with toks:=s8.toks+1}) tp hfr R8.toks (x58.frs▸st) hn.of fun s9 t base F fl tu=> ?_
 refine k (W8.fr W.frs) hp8 s9 e t s8.toks base h8 (fun h b u=> ?_) fl tu
 have z:=F h b u
 exact pop (x58.trans ((dP.toks s8 _).le.trans z.1)) z.2
theorem oY{e:Expr}{p:Pos}{Q:Flow→ag→Prop}(hk:env.scope.kind= .function)(hc:gW e=false)(h: ∀Q:Value→ag→Prop,ar (model B.prog B.w) A (eval e env) Q E s):ar (model B.prog B.w) A (exec (.Expr e p) env) Q E s:=by
 rw[exec_Expr env e p (gt hk) (kW hc)]
 exact aa (aJ (aa (h _)))
theorem tL{e:Expr}{K':Expr→Hp→Ds→Prop}(h:Ft G r e Γ hp ds K'):gW e=false:=by
 induction e using bC with
 |Call=>rfl
 |_=>exact h.elim
theorem K9{C:fK→Prop}{c:fK}{f:V→List V→Prop}(h:P4 c f)(k: ∀u us,f u us→C (.fn u us)):C c:=by
 induction c using fK.casesOn with
 |fn u us=>exact k u us h
 |_=>exact h.elim
theorem Du{C:Expr→Prop}{e:Expr}{f:Expr→Expr→Prop}(h:IF e f)(k: ∀a b x p,cQ [a,b]=true→f a b→C (.Tuple [a,b] x p)):C e:=by
 induction e using bC with
 |Tuple es x p=>exact bp h fun hp h=>nJ (C:=fun es=>cQ es=true→C (.Tuple es x p)) h (fun a b h hp=>k a b x p hp h) hp
 |_=>exact h.elim
theorem pW(g:GlbA B G)(O:fi B n r){e:Expr}{K':V→List V→List (Str×V)→Hp→Ds→Prop}{Q:Value→ag→Prop}(h:F1 G r e Γ hp ds K')(Y:cj B n Γ A W env hp s)
  (k: ∀W' hp' s' f va args bw kw kwv ds,K' f args kw hp' ds→Le B W s W' s'→R B W' hp' s'→a7 W' va f→dD W' bw args→kwv.map (·.1)=kw.map (·.1)→dD W' (kwv.map (·.2)) (kw.map (·.2))→zL B A E s' va bw kwv):ar (model B.prog B.w) A (eval e env) Q E s:=by
 induction e using bC with
 |Call f args kw p=>
  refine lR (C:=fun f=>ar (model B.prog B.w) A (eval (.Call f args kw p) env) Q E s) h (fun o name ap h=> ?_) fun f hf h=>h.elim
  refine bp h fun ha h=>bp h fun hk h=>bp h fun hs h=>bp h fun hl h=>bp h fun hn h=> ?_
  refine fm hs (eq_of_beq hl) (aq hn) ha hk (O.ev h Y fun W1 hp1 s1 v vf d1 h1 x1 R1 r1=>bO h1 fun c hc h1=>K9 (C:=fun c=>hZ G v name hp1=some c→_) h1 (fun u us h1 hc=>gi g hc R1 r1 fun f first s2 g2 R2 hf=> ?_) hc)
  refine kh (K':=fun vs kw hp ds=>K' u (us++vs) kw hp ds) O ha hk h1 ((Y.le x1 R1).le g2.le R2) fun W3 hp3 s3 d3 vs kw' bw kwv h3 x3 R3 r3 e1 r4 M=> ?_
  have hf:=ji.tr (s':=s3) x3.toTr hf
  obtain⟨a,o,fd,rfl,ho,hd,hc⟩:=k W3 hp3 s3 u f (us++vs) (first++bw) kw' kwv d3 h3 (x1.trans (g2.le.trans x3)) R3 hf.1 (hf.2.append r3) e1 r4
  exact⟨fun ks M=> .func ho hd,wpAny_call (hc Q)⟩
 |_=>exact h.elim
theorem rA(g:GlbA B G)(O:fi B n r){e:Expr}{K':Expr→Hp→Ds→Prop}{Q:Value→ag→Prop}(h:Ft G r e Γ hp ds K')(Y:cj B n Γ A W env hp s)
  (k: ∀W' hp' s' a ds,K' a hp' ds→Le B W s W' s'→R B W' hp' s'→∀Q:Value→ag→Prop,ar (model B.prog B.w) A (eval a env) Q E s'):ar (model B.prog B.w) A (eval e env) Q E s:=by
 induction e using bC with
 |Call f args kw p=>
  refine lR (C:=fun f=>ar (model B.prog B.w) A (eval (.Call f args kw p) env) Q E s) h (fun o name ap h=> ?_) fun f hf h=>h.elim
  refine fV (C:=fun kw=>ar (model B.prog B.w) A (eval (.Call (.Attribute o name ap) args kw p) env) Q E s) h fun h=>eA (C:=fun args=>ar (model B.prog B.w) A (eval (.Call (.Attribute o name ap) args [] p) env) Q E s) h fun a h=> ?_
  refine bp h fun ha h=>bp h fun hs h=>bp h fun hl h=> ?_
  refine fm (jS:=[]) hs (eq_of_beq hl) (show 1<29 from by decide) ha rfl (O.ev h Y fun W1 hp1 s1 v vf d1 h1 x1 R1 r1=>bO h1 fun c hc h1=>gi g hc R1 r1 fun f first s2 g2 R2 hf=> ?_)
  exact fC (eY ha) (yP (p:=p) (env:=env) (ks:=[]) rfl).all (args_cons (k W1 hp1 s2 a d1 h1 (x1.trans g2.le) R2 _) (fE ha).1)
 |_=>exact h.elim
theorem wx(g:kN B G)(O:fi B (n+1) r)(O2:fi B (N+1) r2)(hN:N+2≤n+1)(hz:G.glob qC=some (.val (.type FQ))){l:List Env}(hl:A.frames=some l){f:V}{args:List V}{va:Value}{bw:List Value}{kw:List (Str×V)}{kwv:List (Str×Value)}(h:lS G r r2 args kw hp msg K f)(hr:jg A (n+2) W.frs)(Y:R B W hp s)(rf:a7 W va f)(rs:dD W bw args)
  (e1:kwv.map (·.1)=kw.map (·.1)) (r1:dD W (kwv.map (·.2)) (kw.map (·.2))) (k:Os B E W s l msg K):zL B A E s va bw kwv:=by
 cases h with |mk b fn bs t e s0 p1 p2 els more rest hf hbs hbody h=> ?_
 obtain rfl:=(show va= .ref b from rf)
 obtain⟨o,fd,ho,ht,hd,hb,hs,hglob,hbui,hclo,ok,hcode,hmk,hbind⟩:=g.fn b fn hf
 refine⟨b,o,fd,rfl,Y.old ho ht,hd,fun Q=> ?_⟩
 refine jD hbs fun q hq hp'=> ?_
 refine(pO hq).elim fun x zz=>zz.elim fun hx zz=>zz.elim fun x1 zz=>zz.elim fun x2 x3=> ?_
 refine(hbind x hx s bw kwv (fun a o e h=>Y.old e h) (rs.length.trans x1.symm) (e1.trans x2.symm)).elim fun vbs zz=>zz.elim fun hbt hrel=> ?_
 refine pP g.base (Y.old ho ht) hd hb hs (hcode _ Y.base) hglob hbui (hclo▸bI.nil) ok hmk ⟨vbs,hbt,pE (rs.append r1) (x3▸hrel) hp'⟩ h hr Y fun{env W5 hp5 s5} h5 tp hk Y5 pop=> ?_
 rw[hbody]
 have hfr:(A.deeper env).frames=some (env::l):=bv.frames_deeper hl
 refine h5.elim fun ds h5=>codeAny_func (bQ (O.ex h5 tp Y5 fun W6 hp6 s6 f vf d6 h6 x6 R6 rf=> ?_))
 obtain⟨rfl,h6⟩:=h6
 have Y6:=Y5.le x6 R6
 cases vf with
 |next=> ?_
 |_=>exact rf.elim
 refine bQ ?_
 rw[exec_If]
 refine aa (aJ (aa (O.ts h6 Y6 fun W7 hp7 s7 c d7 h7 x7 R7=> ?_)))
 obtain⟨rfl,h7⟩:=h7
 have Y7:=Y6.le x7 R7
 refine bQ (oY hk (tL h7) (fun Q=>rA g.toGlbA O h7 Y7 fun W8 hp8 s8 a d8 h8 x8 R8 Q=>Du (C:=fun a=>ar (model B.prog B.w) (A.deeper env) (eval a env) Q _ s8) h8 fun e1 e2 ck cp ha h8=> ?_))
 have Y8:=Y7.le x8 R8
 refine wpAny_Tuple (args_cons (O.ev h8 Y8 fun W9 hp9 s9 v va d9 h9 x9 R9 r9=>args_cons (pW g.toGlbA O h9 (Y8.le x9 R9) fun W1 hp1 s1 f va args bw kw kwv ds h1 x1 R1 rf rs e1 r1=> ?_) (fE (fE (env:=env) ha).2).1) (fE ha).1)
 refine wy g O2 hz hfr h1 (((Y8.le x9 R9).le x1 R1).room.less hN) R1 rf rs e1 r1 fun W2 hp2 s2 e t tk base hK F fl tu=> ?_
 refine tp.elim fun l2 zz=>zz.elim fun hl2 zz=>zz.elim fun L hL=> ?_
 refine wpAny_leaves_onW hfr hL fl fun h' y1 y2=> ?_
 refine k (W2.fr W.frs) hp2 {s2 with heap:=h'} e t tk base hK (fun h9 b9 u9=> ?_) y1 (tu.of_slots y2)
 have z:=F h9 b9 (y2.trans u9)
 exact pop ((((((x6.trans x7).trans x8).trans x9).trans x1)).trans z.1) z.2
end
section
variable{B:bW}{G:fS}{C:cG}{r L L2:Ev}{n N:Nat}{Γ:Cx}{A:bv}{W W' W0 W1 W2 W6:Wd}{env cenv:Env}{hp hp' hp2 hp6:Hp}{s s' s0 s1 s2 s6:ag}{ds:Ds}{E:Value→ag→Prop}{X:eG}{msg:Str}{K:Hp→Prop}
theorem sH{x:Str}(YE:ow B Γ W env)(Y:R B W hp s)(hx:Γ.names.lookup x=some .local)(h:eM Γ x .unb hp K){p:Prop}
  (k: ∀m hp',K hp'→s.heap.Ns env.locals m→(∀(h':dq) (v:Option Value) (tk:Tok),h'.Ns env.locals (fun y=>if y=x then v else m y)→dq.SameBut env.locals s.heap h'→Le B W s W {s with heap:=h',toks:=tk}∧R B W hp' {s with heap:=h',toks:=tk})→p):p:=by
 refine bO h fun kd e h=> ?_
 obtain rfl:=af (hx.symm.trans e)
 refine ng h fun l q h=> ?_
 obtain⟨m,hns,rm⟩:jH s.heap W env.locals l:=Y.objs _ _ _ YE.fr q
 refine k m _ h hns fun h' v tk hn' hs'=> ?_
 have b:tP env.locals s {s with heap:=h',toks:=tk}:=SameBut.but hs' (hn'.elim fun o n=>n.elim fun M n=>n.elim fun M n=>⟨o,n.1⟩)
 refine⟨b.le (.inl (c8 YE.fr)),Y.write (o':= .loc (m4 x .unb l)) b YE.fr (Y.offAt YE.fr q nofun) (jH.mk _ hn' fun y u hy=> ?_) fun M=>⟨_,rfl⟩⟩
 rw[jw]at hy
 rcases c:y==x with _|_<;>rw[c]at hy
 ·rw[if_neg (beq_eq_false_iff_ne.mp c)];exact rm y u hy
 ·exact .inl (af hy).symm
theorem yL{x:Str}{p:Pos}{m:Str→Option Value}{v:Value}{Q:Value→ag→Prop}(hd:(x==ae "__debug__")=false)(hk:env.scope.kind= .function)(hx:env.kindOf x=some .local)(hn:s.heap.Ns env.locals m)(hv:m x=some v)(hQ:Q v s):ar (model B.prog B.w) A (eval (.Name x p) env) Q E s:=by
 have e:eval (.Name x p) env=(do
  dI p
  if x==("__debug__":Str)then debugConstant else loadName env x):=rfl
 rw[e,show(x==("__debug__":Str))=false from hd,if_neg (by simp)]
 exact aa (aJ (wpAny_loadName_local hk hx hn hv hQ))
theorem HX(g:kN B G)(hz:G.glob qC=some (.val (.type FQ)))(hz2:G.glob (ae "str")=some (.val (.type "str")))(Y:cj B n Γ A W env hp s)(tp:jA A env)(hn:Γ.names.lookup qC=some .globalImplicit)(hn2:Γ.names.lookup (ae "str")=some .globalImplicit){x y:Str}(hx:Γ.names.lookup x=some .local)(hxd:(x==ae "__debug__")=false)
  {l:List Env} (hl:A.frames=some l) {base:dq} {e t:aB} {tk:Tok} {p2 p3 p4 p5 p6 p7 p8 p9 p10:Pos} {Q:Flow→ag→Prop} (hm:bz msg.cps.toList.length bS=true) (hp47:p4.endLine=p7.line)
  (F:A7 B W s W' hp' base s') (fl:dq.FlyingW base l e (.type FQ) (.ref t) s'.heap) (tu:s'.heap.TupAt t [.str msg tk])
  (h:eM Γ x .unb hp' fun hp=>fN (jd y (lg G Γ hp y)) fun sv=>hZ G sv (ae "append") hp=some (.meth "list.append")∧wQ "list.append" sv [.str msg.cps.toList] hp fun M hp=>eM Γ x .unb hp K) (hQ: ∀W2 hp2 s2,K hp2→Le B W s W2 s2→R B W2 hp2 s2→Q .next s2):
  ar (model B.prog B.w) A (noteFrame (.ref e) env) (fun M s₂=>ar (model B.prog B.w) A (setFlight (.ref e) none) (fun M s₃=>ar (model B.prog B.w) A (handleBy (.ref e) env
   [.ExceptHandler (some (.Name qC p2)) (some x) [.Expr (.Call (.Attribute (.Name y p3) (ae "append") p4) [.Call (.Name (ae "str") p5) [.Name x p6] [] p9] [] p7) p8] p10]) Q E s₃) E s₂) E s':=by
 refine tp.elim fun l2 zz=>zz.elim fun hl2 zz=>zz.elim fun L hL=> ?_
 obtain rfl:=af (hl2.symm.trans hl)
 refine wpAny_looks_onW hl2 hL fl fun h4 held u4=>wpAny_landsW held fun h5 fl5 u5=> ?_
 refine fl5.there.elim fun ob zz=>zz.elim fun hob hobc=> ?_
 refine wpAny_handleBy_builtin_as (X:=FQ) (T:=FQ) (b:=true) excClass_ValueError.base PySem.F.notTuple_ValueError excClass_ValueError.self (CE g.toGlbOk hz rfl Y.relE.kind (Y.relE.name hn) Y.relE.glob Y.relE.bui (F h5 fl5.1 (u4.trans u5)).2 ⟨rfl,⟨ob,hob,hobc⟩,?_⟩)
 refine lands_againW fl5 fun h6 fl6 u6=> ?_
 have z:=F h6 fl6.1 ((u4.trans u5).trans u6)
 have YE:=Y.relE.tr z.1.toTr
 have hxk:env.kindOf x=some .local:=Y.relE.name hx
 have hmod:(env.scope.kind== .class||(env.scope.kind== .module&&env.locals !=env.globals))=false:=by rw[Y.relE.kind];rfl
 have tu6:=tu.of_slots ((u4.trans u5).trans u6)
 obtain⟨oe,vs,he,hec,hed,he0⟩:=fl6.first
 obtain⟨ot,kt,hto,htc,htd⟩:=tu6
 refine sH YE z.2 hx h fun m hp7 h7 hns7 k7=> ?_
 have neE:e≠env.locals:=fun q=>by
  obtain⟨o',es,ep,ho',hd',_⟩:=hns7
  cases ho'.symm.trans (q▸he)
  cases hd'.symm.trans hed
 have neT:t≠env.locals:=fun q=>by
  obtain⟨o',es,ep,ho',hd',_⟩:=hns7
  cases ho'.symm.trans (q▸hto)
  cases hd'.symm.trans htd
 refine wpAny_storeName_local hxk hns7 (fun h8 hn8 hs8=> ?_) hmod
 have z8:=k7 h8 _ (s'.toks+1) hn8 hs8
 refine bQ ?_
 rw[exec_Expr env _ p8 (gt Y.relE.kind) (kW rfl)]
 refine aa (aJ (aa ?_))
 refine bO h7 fun sv hsv h7=> ?_
 refine fm (args:=[_]) (jS:=[]) rfl hp47 (show 1<29 from by decide) rfl rfl (DG g.toGlbOk hsv (YE.tr z8.1.toTr) z8.2 fun va rv=>gi g.toGlbA h7.1 z8.2 rv fun f first s9 g9 R9 hf=> ?_)
 obtain⟨rfl,rfl⟩:=hf
 have he9:s9.heap.ExcAt e FQ (.ref t):=⟨oe,vs,g9.keep _ _ ((hs8.2 e neE).trans he),hec,hed,he0⟩
 have ht9:s9.heap.TupAt t [.str msg tk]:=⟨ot,kt,g9.keep _ _ ((hs8.2 t neT).trans hto),htc,htd⟩
 have hn9:s9.heap.Ns env.locals (fun y=>if y=x then some (.ref e)else m y):=hn8.elim fun o z=>z.elim fun es z=>z.elim fun ep z=>⟨o,es,ep,g9.keep _ _ z.1,z.2⟩
 have z9:=z8.1.trans g9.le
 refine fC (eY (es:=[_]) rfl) (yP (p:=p7) (env:=env) (ks:=[]) rfl).all (args_cons (mR rfl (aa (CE g.toGlbOk hz2 rfl Y.relE.kind (Y.relE.name hn2) Y.relE.glob Y.relE.bui R9 (fC (eY (es:=[_]) rfl) (yP (p:=p9) (env:=env) (ks:=[]) rfl).all (args_cons ?_ rfl))))) rfl)
 refine yL hxd Y.relE.kind hxk hn9 (if_pos rfl) (args_nil (ao ⟨.type _,?_⟩))
 refine PySem.P.str_of_exc_one PySem.F.excStr_ValueError (by have:=Y.room.units;show A.units+2<_;lia) he9 ht9 (args_nil (ao ⟨.builtin _,?_⟩))
 refine oU (K:=fun M hp=>eM Γ x .unb hp K) h7.2 R9 (rv.tr (Le.refl B W' s9).toTr) (.cons (show eJ msg.cps.toList (.str msg tk)from .mk tk (aq hm)) .nil) fun W3 hp3 s3 u ua h3 x3 R3 M=>wpAny_dropValue (wpAny_execs_nil ?_)
 refine sH (YE.tr (z9.toTr.trans x3.toTr)) R3 hx h3 fun m3 hp4 h4 hns4 k4=> ?_
 refine wpAny_nameGoes_keeps hxk hns4 hmod fun h10 v hn10 hs10=> ?_
 have z10:=k4 h10 v (s3.toks+1) hn10 hs10
 exact hQ _ _ _ h4 (z.1.trans (z9.trans (x3.trans z10.1))) z10.2
theorem xZ(g:kN B G)(O:fi B n r)(OL:tN B n L L2)(tp:jA A env){body:List bP}{hs:List ExceptHandler}{p:Pos}{K:KF}{Q:Flow→ag→Prop}(h:Ie G r L L2 Γ hp ds K body hs)(Y:cj B n Γ A W env hp s)(P:fR B W s K Q):
  ar (model B.prog B.w) A (exec (.Try body hs [] [] p) env) Q E s:=by
 cases h with |mk e x y msg p1 p2 p3 p4 p5 p6 p7 p8 p9 p10 hz hn hz2 hn2 hx hxd hl hm h=> ?_
 refine OL.elim fun m1 zz=>zz.elim fun m2 zz=>zz.elim fun O1 zz=>zz.elim fun O2 zz=>zz.elim fun l1 l2=> ?_
 refine tp.elim fun l zz=>zz.elim fun hfr zz=>zz.elim fun L hL=> ?_
 refine wpAny_Try_except (bQ (oY Y.relE.kind (tL h) fun Q1=>rA g.toGlbA O h Y fun W1 hp1 s1 a d1 h1 x1 R1 Q2=>pW g.toGlbA O h1 (Y.le x1 R1) fun W2 hp2 s2 f va args bw kw kwv d2 h2 x2 R2 rf rs e1 r1=> ?_))
 have Y2:=(Y.le x1 R1).le x2 R2
 refine wx g O1 O2 l2 hz hfr h2 (Y2.room.less l1) R2 rf rs e1 r1 fun W3 hp3 s3 e t tk base h3 F fl tu=> ?_
 exact HX g hz hz2 Y2 tp hn hn2 hx hxd hfr hm hl F fl tu h3 fun W4 hp4 s4 h4 x4 R4=>P W4 hp4 s4 .next .next d2 h4 ((x1.trans x2).trans x4) R4 trivial
theorem Bf(g:kN B G)(O:fi B (n+1) r)(tp:jA A env)(h1n:1≤n)(OL:tN B (n+1) L L2){body orelse fin:List bP}{hs:List ExceptHandler}{p:Pos}{K:KF}{Q:Flow→ag→Prop}(h:JC G r L L2 body hs orelse fin Γ hp ds K)(Y:cj B (n+1) Γ A W env hp s)(P:fR B W s K Q):
  ar (model B.prog B.w) A (exec (.Try body hs orelse fin p) env) Q E s:=
 fV (C:=fun orelse=>ar (model B.prog B.w) A (exec (.Try body hs orelse fin p) env) Q E s) h fun h=>fV (C:=fun fin=>ar (model B.prog B.w) A (exec (.Try body hs [] fin p) env) Q E s) h fun h=>h.elim (fun⟨h0,hs',e,hb⟩=>e▸wpAny_Try_except (fB O tp hb Y fun W1 hp1 s1 f vf d k x R1 rf=>nt (P _ _ _ f vf d k x R1 rf))) fun h=>h.elim (fun h=>xY g O tp h1n h Y P) fun h=>xZ g O OL tp h Y P
end
theorem oN(c:Nat)(b x y:List Nat):iP c b (x++y)=iP c b x++iP c b y:=List.flatMap_append ..
theorem nS(c:Nat)(b:List Nat): ∀l:List Nat,c ∉ l→iP c b l=l
 |[],_=>rfl
 |k::r,h=>by
  have e:aS k c=false:=dj.mpr fun q=>h (aV q▸ .head _)
  show cond (aS k c) b [k]++iP c b r=_
  rw[e,nS c b r fun m=>h (.tail _ m)]
  rfl
theorem sY(c:Nat)(z:Str): ∀parts:List Str,(∀p∈parts,c ∉ p.cps.toList)→iP c z.cps.toList (Str.join ⟨#[c]⟩ parts).cps.toList=(Str.join z parts).cps.toList
 |[],_=>rfl
 |[p],h=>nS c _ _ (h p (.head _))
 |p::q::r,h=>by
  have ih:=sY c z (q::r) fun a ha=>h a (.tail _ ha)
  show iP c z.cps.toList (p++⟨#[c]⟩++Str.join ⟨#[c]⟩ (q::r)).cps.toList=(p++z++Str.join z (q::r)).cps.toList
  simp only[Str.cps_append,Array.toList_append]
  rw[oN,oN,ih,nS c _ _ (h p (.head _))]
  have e:iP c z.cps.toList [c]=z.cps.toList:=by show cond (aS c c) _ _++[]=_;rw[Nat.beq_refl c,bk];rfl
  rw[e]
theorem qu(x z:Str)(c:Nat):(Txt.replace x ⟨#[c]⟩ z).cps.toList=iP c z.cps.toList x.cps.toList:=by
 rw[StrLaws.replace_one,←sY c z _ (StrLaws.split_free x c),StrLaws.join_split]
theorem js(c:Nat){b:List Nat}(hb:b.length≤2): ∀x:List Nat,(iP c b x).length≤2*x.length
 |[]=>av 0
 |k::r=>by
  have ih:=js c hb r
  show(cond (aS k c) b [k]++iP c b r).length≤_
  rw[ak,b4]
  cases aS k c
  ·exact ad (bV (cN 1) ih) (aC (bK 2 _))
  ·exact ad (bV hb ih) (aC (bK 2 _))
section
variable{B:bW}{G:fS}{r:Ev}{n:Nat}{Γ:Cx}{A:bv}{W W':Wd}{env:Env}{hp hp':Hp}{s s':ag}{ds:Ds}{E:Value→ag→Prop}
theorem wq{o:Expr}{c:Nat}{b:List Nat}{k2 k3:Nat}{p5 p6 p7 p8:Pos}{L:Nat}{Q:Value→ag→Prop}(hset:gf o=true)(hl:p5.endLine=p8.line)(hb:b.length≤2)(hd:b≠[c])(hL:L≤2000)
  (h:ar (model B.prog B.w) A (eval o env) (fun v s=>∃x t,v= .str x t∧x.length≤L∧0<s.toks∧∀t' k,s.toks≤k→Q (.str (Txt.replace x ⟨#[c]⟩ ⟨b.toArray⟩) t') {s with toks:=k}) E s):
  ar (model B.prog B.w) A (eval (.Call (.Attribute o wH p5) [.Constant (.str ⟨#[c]⟩) k2 p6,.Constant (.str ⟨b.toArray⟩) k3 p7] [] p8) env) Q E s:=by
 refine fm (jS:=[]) hset hl (show 2<29 from by decide) rfl rfl (bF h (fun v s1 z=> ?_) fun M M e=>e)
 obtain⟨x,t,rfl,hx,hp,hQ⟩:=z
 refine GM.replace (fC (eY (es:=[_,_]) rfl) (yP (p:=p8) (env:=env) (ks:=[]) rfl).all (args_cons (Constant_str (args_cons (Constant_str (args_nil (ao ⟨.builtin _,?_⟩))) rfl)) rfl))
 refine pV (SC.replace (Nat.pos_iff_ne_zero.mp hp) (Nat.succ_ne_zero _) (cR (Nat.lt_succ_self _)) (beq_eq_false_iff_ne.mpr fun e=>hd ?_) ?_ fun t' k hk=> ?_)
 ·injection e with e
  exact(congrArg Array.toList e).symm
 ·have e:(⟨b.toArray⟩:Str).length=b.length:=cA
  have:=bj (x.length+1) hb
  rw[e]
  lia
 ·exact hQ t' k (ad (aG _ 2) hk)
theorem Bv(g:kN B G)(O:fi B n r)(tp:jA A env){st:bP}{K:KF}{Q:Flow→ag→Prop}(h:zC G r Γ hp ds K st)(Y:cj B n Γ A W env hp s)(P:fR B W s K Q):ar (model B.prog B.w) A (exec st env) Q E s:=by
 cases h with |mk a l t2 o op i y c1 c2 b1 b2 rest els els2 k1 k2 k3 k4 k5 p1 p2 p3 p4 p5 p6 p7 p8 p9 p10 p11 p12 p13 p14 p15 hset hl1 hl2 hb1 hb2 hd1 hd2 h=> ?_
 rw[exec_If]
 refine aa (aJ (aa (wpAny_isTrue_BoolOp (wpAny_allTrue_And_cons (O.ts h Y fun W1 hp1 s1 c d1 h1 x1 R1=> ?_)))))
 obtain⟨rfl,h1⟩:=h1
 have Y1:=Y.le x1 R1
 refine wpAny_allTrue_And_cons ?_
 have e0:isTrue (.Compare l [op] [.Constant (.int i) k1 p1] p2) env (eval (.Compare l [op] [.Constant (.int i) k1 p1] p2) env)=(do testChain p2 (←eval l env) [op] (markedEach [op] [.Constant (.int i) k1 p1] (evalEach [.Constant (.int i) k1 p1] env))):=rfl
 rw[e0,g7 _ _ env rfl]
 refine aa (O.ev h1 Y1 fun W2 hp2 s2 v va d2 h2 x2 R2 r2=> ?_)
 have x12:=x1.trans x2
 refine aa (aU (wpAny_Constant_int (aa (aJ (aa (wpAny_operate' (je h2 (R2.toks (t:=s2.toks+1)) r2 (.mk s2.toks) (by have:=Y.room.units;lia) fun c h3=>aU (wpAny_truthy_bool ?_))))))))
 obtain⟨rfl,h3⟩:=h3
 have x3:Le B W s W2 {s2 with toks:=s2.toks+1}:=x12.trans (dP.toks s2 _).le
 have Y3:=Y.le x3 R2.toks
 refine ao ?_
 refine bQ ?_
 rw[exec_If]
 refine aa (aJ (aa (pV (O.ts h3 Y3 fun W4 hp4 s4 c d4 h4 x4 R4 ht4=> ?_))))
 have hpos:0<s4.toks:=aA (Nat.succ_pos _) ht4
 have x34:=x3.trans x4
 have Y4:=Y3.le x4 R4
 refine h4.elim (fun q=> ?_) fun q=> ?_
 ·obtain⟨rfl,q⟩:=q
  refine bQ ?_
  rw[exec_Assign_arm]
  refine aa (aJ ?_)
  show ar _ _ (swapsWith (.Call (.Attribute (.Call (.Attribute o wH p5) [.Constant (.str ⟨#[c1]⟩) k2 p6,.Constant (.str ⟨b1.toArray⟩) k3 p7] [] p8) wH p9) [.Constant (.str ⟨#[c2]⟩) k4 p10,.Constant (.str ⟨b2.toArray⟩) k5 p11] [] p12) (some (.Name y p4)) p13.line env>>=_) _ _ _
  rw[qf]
  refine aa (ao ?_)
  refine IV cE ?_
  refine aa (wq (L:=2000) rfl hl2 hb2 hd2 (av _) (wq (L:=1000) hset hl1 hb1 hd1 (by decide) (pV (O.ev q Y4 fun W5 hp5 s5 v va d5 h5 x5 R5 r5 ht5=>fj (C:=fun v=>a7 W5 va v→_) h5 (fun x h5 r5=> ?_) r5))))
  obtain⟨t,rfl⟩: ∃t,va= .str ⟨x.toArray⟩ t:=eJ.elim (C:=fun va=>∃t,va= .str ⟨x.toArray⟩ t) r5 fun t hz=>⟨t,rfl⟩
  obtain⟨hx,h5⟩:=h5
  refine⟨_,t,rfl,(ad (aC cA) hx),aA hpos ht5,fun t' k hk=>⟨_,t',rfl,?_,aA hpos (ad ht5 hk),fun t2 k2 hk2=> ?_⟩⟩
  ·have e:=congrArg List.length (qu ⟨x.toArray⟩ ⟨b1.toArray⟩ c1)
   show Array.size _≤2000
   rw[←aN,e]
   have:=js c1 hb1 x
   exact ad this (bj 2 hx)
  ·refine aa (ao ?_)
   show ar _ _ (do assign (.Name y p4) env _;pure Flow.next) _ _ _
   have e1:=qu ⟨x.toArray⟩ ⟨b1.toArray⟩ c1
   have e2:=qu (Txt.replace ⟨x.toArray⟩ ⟨#[c1]⟩ ⟨b1.toArray⟩) ⟨b2.toArray⟩ c2
   rw[e1]at e2
   have l1:=js c1 hb1 x
   have l2:=js c2 hb2 (iP c1 b1 x)
   have rr:a7 W5 (.str (Txt.replace (Txt.replace ⟨x.toArray⟩ ⟨#[c1]⟩ ⟨b1.toArray⟩) ⟨#[c2]⟩ ⟨b2.toArray⟩) t2) (.str (iP c2 b2 (iP c1 b1 x))):=by
    show eJ (iP c2 b2 (iP c1 b1 x)) _
    have q:eJ (Txt.replace (Txt.replace ⟨x.toArray⟩ ⟨#[c1]⟩ ⟨b1.toArray⟩) ⟨#[c2]⟩ ⟨b2.toArray⟩).cps.toList (.str (Txt.replace (Txt.replace ⟨x.toArray⟩ ⟨#[c1]⟩ ⟨b1.toArray⟩) ⟨#[c2]⟩ ⟨b2.toArray⟩) t2):= .mk t2 (by rw[e2];exact ad l2 (ad (bj 2 (ad l1 (bj 2 hx))) (by decide)))
    exact e2▸q
   have x5':=x5.trans (dP.toks s5 k2).le
   refine aa (wpAny_assign_Name (eW h5 (Y4.le x5' R5.toks) rr fun W6 hp6 s6 h6 x6 R6=>ao ?_))
   exact fB O tp h6 ((Y4.le x5' R5.toks).le x6 R6) fun W7 hp7 s7 f vf d7 h7 x7 R7 rf=>nt (P W7 hp7 s7 f vf d7 h7 (x34.trans (x5'.trans (x6.trans x7))) R7 rf)
 ·obtain⟨rfl,q⟩:=q
  exact fB O tp q Y4 fun W7 hp7 s7 f vf d7 h7 x7 R7 rf=>nt (P W7 hp7 s7 f vf d7 h7 (x34.trans x7) R7 rf)
end
section
variable{B:bW}{G:fS}{C:cG}{r L L2:Ev}{n:Nat}{Γ:Cx}{A:bv}{W W' W0 W1 W2:Wd}{env cenv:Env}{hp hp' hp2:Hp}{s s' s0 s1 s2:ag}{ds:Ds}{E:Value→ag→Prop}{X:eG}{K:KF}{Q:Flow→ag→Prop}
noncomputable def BK(e:Expr):Bool:=match e with
 | .ListComp M Δ Θ Λ=>true
 |M=>false
theorem vY{C:Expr→Expr→Sem Bool→Prop}(e:Expr)(t:Expr)(line:Nat)(no: ∀e t,C e t (pure false))(yes: ∀elt gs scope p x px,C (.ListComp elt gs scope p) (.Name x px) (pure true))(oth: ∀e t,gW e=true→BK e=false→C e t (swapsWith e (some t) line env)):C e t (swapsWith e (some t) line env):=by
 induction e using bC with
 |ListComp elt gs scope p=>
  induction t using bC with
  |Name x px=>
   have e0:swapsWith (.ListComp elt gs scope p) (some (.Name x px)) line env=pure (env.blockKind== .function&&env.kindOf x==some .local&&px.line==p.line&& !(scope.names.any fun(n,k)=>n==x&&(k== .local||k== .cell))):=rfl
   rw[e0]
   generalize (env.blockKind== .function&&env.kindOf x==some .local&&px.line==p.line&& !(scope.names.any fun(n,k)=>n==x&&(k== .local||k== .cell)))=b
   induction b using ah with
   |false=>exact no _ _
   |true=>exact yes _ _ _ _ _ _
  |_=>exact no _ _
 |_=>first|exact no _ _|exact oth _ _ rfl rfl
theorem Gj{G:Prop}(e t:Expr)(line:Nat)(no:swapsWith e (some t) line env=pure false→G)(yes: ∀elt gs scope p x px,e= .ListComp elt gs scope p→t= .Name x px→swapsWith e (some t) line env=pure true→G)(oth:gW e=true→BK e=false→G):G:=
 vY (C:=fun e' t' b=>e'=e→t'=t→b=swapsWith e (some t) line env→G) e t line (fun M M M M h=>no h.symm) (fun M M M M M M a b h=>yes _ _ _ _ _ _ a.symm b.symm h.symm) (fun M M hc h2 a M M=>oth (a▸hc) (a▸h2)) rfl rfl rfl
theorem ET(O:fi B n r){elt:Expr}{gs:List cT}{scope:Scope}{p:Pos}{x:Str}{px:Pos}{K:Hp→Ds→Prop}(h:r.ev (.ListComp elt gs scope p) Γ hp ds fun v hp ds=>eM Γ x v hp fun hp=>K hp ds)(Y:cj B n Γ A W env hp s)
  (P: ∀W' hp' s' ds',K hp' ds'→Le B W s W' s'→R B W' hp' s'→Q .next s'):ar (model B.prog B.w) A (do evalThenUse (.ListComp elt gs scope p) env (assign (.Name x px) env);pure .next) Q E s:=by
 refine aa ?_
 unfold evalThenUse
 refine aa ?_
 refine O.lc (use:=some (assign (.Name x px) env)) (Q:=fun M s'=>ar (model B.prog B.w) A (pure ()) (fun M s'=>ar (model B.prog B.w) A (pure .next) Q E s') E s') h Y fun D L W' hp' s' v' d k rv R' x1 pL hL h0=> ?_
 refine hL.elim fun m hm=> ?_
 refine wpAny_assign_Name (eW k (Y.le x1 R') rv fun W2 hp2 s2 k2 x2 R2=> ?_)
 refine hm.elim fun o zz=>zz.elim fun es zz=>zz.elim fun ep zz=>zz.elim fun ho hr=> ?_
 have p2:=x2.priv pL ho
 refine⟨m,⟨o,es,ep,p2.2,hr⟩,fun h' hs=>ao (ao ?_)⟩
 have gx:zJ L s2 {s2 with heap:=h'}:=⟨fun b o hb e=>(hs.2 b hb).trans e,rfl,rfl⟩
 exact P W2 hp2 _ d k2 ((x1.trans x2).transX gx.leX (eG.off h0)) (R2.gone p2.1 gx)
theorem vp(g:GlbA B G)(O:fi B n r){t e:Expr}{p:Pos}(hok:m8 t e=true)(h:r.ev e Γ hp ds fun v hp ds=>uy r G t v Γ hp ds fun hp ds=>K .next hp ds)(hne: ∀K,r.ev e Γ hp ds K→gW e=true→BK e=true)(Y:cj B n Γ A W env hp s)(P:fR B W s K Q):
  ar (model B.prog B.w) A (exec (.Assign [t] e p) env) Q E s:=by
 rw[exec_Assign_arm]
 refine aa (aJ ?_)
 show ar _ _ (swapsWith e (some t) p.line env>>=_) _ _ _
 refine Gj (env:=env) e t p.line (fun hs=> ?_) (fun elt gs scope cp x px he ht hs=> ?_) fun hc h2=> ?_
 ·rw[hs]
  refine aa (ao ?_)
  refine IV cE ?_
  refine aa (O.ev h Y fun W1 hp1 s1 v va d1 h1 x1 R1 r1=> ?_)
  have Y1:=Y.le x1 R1
  rcases rP (env:=env) hok with hw|⟨ts,k,tp,vs,k2,p2,line,rfl,rfl,hw,hn,hl,hd⟩
  ·rw[hw]
   refine aa (ao ?_)
   have he:(dG [t] env).map (·.2)=[assign t env]∨∃u q,t= .Starred u q:=by
    cases t<;>first|exact .inl rfl|exact .inr ⟨_,_,rfl⟩
   rcases he with he|⟨u,q,rfl⟩
   ·rw[he]
    show ar _ _ (do assign t env va;pure Flow.next) _ _ _
    exact aa (rX g O h1 Y1 r1 fun W2 hp2 s2 d2 h2 x2 R2=>ao (P _ _ _ .next .next _ h2 (x1.trans x2) R2 trivial))
   ·exact h1.elim
  ·rw[hw]
   refine aa (ao ?_)
   exact rO (k:=k) (pos:=tp) (K:=fun hp=>K .next hp d1) h1 Y1 r1 hn hl hd _ fun W2 hp2 s2 h2 x2 R2=>P _ _ _ .next .next _ h2 (x1.trans x2) R2 trivial
 ·subst he
  subst ht
  rw[hs]
  refine aa (ao ?_)
  refine KL rfl ?_
  exact ET O (K:=fun hp ds=>K .next hp ds) h Y fun W' hp' s' d k x1 R1=>P _ _ _ .next .next _ k x1 R1 trivial
 ·exact bh (h2.symm.trans (hne _ h hc))
theorem B2(g:GlbOk B G){name bind:Str}{args:Arguments}{body:List bP}{scope:Scope}{pos:Pos}{tag:Nat}{cl:List (Str×Nat)}{K:Hp→Prop}{decs:List Expr}{returns:Option Expr}{tps:List TypeParam}{tscope:Option Scope}(h1:iG decs=true)(h2:returns.isNone=true)(h3:iG tps=true)(h4:tscope.isNone=true)(hmk:Γ.mks=true)(hcl:eS Γ scope.names []=some cl)
  (hf:G.code tag=some ⟨args,.stmts body,scope⟩) (hb:bind=name) (hd:args.defaults=[]) (hkd:args.kw_defaults=[]) (hann:DF args=true)
  (hs:eM Γ bind (.own hp.length) (hp++[.fn tag cl none]) K) (Y:cj B n Γ A W env hp s) (P: ∀W' hp' s',K hp'→Le B W s W' s'→R B W' hp' s'→Q .next s'):
  ar (model B.prog B.w) A (exec (.FunctionDef name args body decs returns tps scope tscope bind pos) env) Q E s:=by
 obtain rfl:=ie h1
 obtain rfl:=lO h2
 obtain rfl:=ie h3
 obtain rfl:=lO h4
 subst hb
 rw[exec_def]
 have ha:annTrees args none env=[]:=by
  obtain⟨po,a,va,ko,kd,kwa,d⟩:=args
  simp only[DF,cg,cL]at hann
  unfold annTrees
  rw[show evalOpt none env=none from rfl]
  simp only[Option.map_none,Option.toList_none,bk]
  exact Fu env (by simp only[cg,cL];exact⟨⟨⟨⟨hann.1.1.1.2,hann.1.1.1.1⟩,hann.1.1.2⟩,hann.1.2⟩,hann.2⟩)
 rw[defaultsOf_eq,hd,hkd,ha]
 refine aa (aJ ?_)
 refine aa (aU (aa (m:=evalAll []) (ao (aa (aU (m:=evalAllOpt []) (ao (aU (aa (m:=evalNamed []) (ao ?_)))))))))
 rw[ja]
 refine lh (K:=fun v hp'=>v= .own hp.length∧hp'=hp++[.fn tag cl none]) g hmk hf hcl ⟨rfl,rfl⟩ Y fun W1 hp1 s1 v va h1 x1 R1 r1=> ?_
 obtain⟨rfl,rfl⟩:=h1
 exact aa (aJ (aa (wpAny_bindName (eW hs (Y.le x1 R1) r1 fun W2 hp2 s2 h2 x2 R2=>ao (P _ _ _ h2 (x1.trans x2) R2)))))
theorem H7{C:Expr→Prop}{X:Str→Prop}{Z:Expr→Str→Prop}{t:Expr}(h:Og t X Z)(k1: ∀x p,X x→C (.Name x p))(k2: ∀o n p,Z o n→C (.Attribute o n p)):C t:=by
 induction t using bC with
 |Name x p=>exact k1 _ _ h
 |Attribute o n p=>exact k2 _ _ _ h
 |_=>exact h.elim
theorem v4(g:kN B G)(O:fi B (n+1) r)(Co:gz B C n)(hn:1≤n)(OL:tN B (n+1) L L2)(hne: ∀e Γ hp ds K,r.ev e Γ hp ds K→gW e=true→BK e=true){st:bP}(tp:jA A env)(h:Ix G C L L2 r st Γ hp ds K)(Y:cj B (n+1) Γ A W env hp s)(P:fR B W s K Q):ar (model B.prog B.w) A (exec st env) Q E s:=by
 induction st using bP.casesOn with
 |Expr e p=>
  have h:cond (gW e) False (r.ev e Γ hp ds fun M hp ds=>K .next hp ds):=h
  have hc:gW e=false:=by
   induction q:gW e using ah with
   |true=>rw[q]at h;exact h.elim
   |false=>rfl
  rw[hc]at h
  rw[exec_Expr env e p (gt Y.relE.kind) (kW hc)]
  exact aa (aJ (aa (O.ev h Y fun W1 hp1 s1 v va d1 h1 x1 R1 r1=>wpAny_dropValue (P _ _ _ .next .next _ h1 x1 R1 trivial))))
 |Pass p=>exact wpAny_Pass (P _ _ _ .next .next _ h (.refl ..) Y.relH trivial)
 |Break p=>exact wpAny_Break (P _ _ _ .brk .brk _ h (.refl ..) Y.relH trivial)
 |Continue p=>exact wpAny_Continue (P _ _ _ .cont .cont _ h (.refl ..) Y.relH trivial)
 |Return e p=>
  induction e using aw with
  |none=>exact wpAny_Return_none (P _ _ _ (.ret .none) (.ret .none) _ h (.refl ..) Y.relH rfl)
  |some e=>exact wpAny_Return_some (O.ev h Y fun W1 hp1 s1 v va d1 h1 x1 R1 r1=>P _ _ _ (.ret v) (.ret va) _ h1 x1 R1 r1)
 |Assign ts e p=>exact eA (C:=fun ts=>ar (model B.prog B.w) A (exec (.Assign ts e p) env) Q E s) h fun t h=>bp h fun hok h=>vp g.toGlbA O hok h (fun K=>hne e Γ hp ds K) Y P
 |AugAssign t op e p=>
  refine H7 (C:=fun t=>ar (model B.prog B.w) A (exec (.AugAssign t op e p) env) Q E s) h (fun x np h=> ?_) fun o name tp h=> ?_
  ·refine bO h fun a ha h=> ?_
   rw[exec_AugAssign_Name]
   refine aa (aJ (aa (oS g.toGlbOk ha Y.relE Y.relH fun va r0=> ?_)))
   refine aa (aU (O.ev h Y fun W1 hp1 s1 b vb d1 h1 x1 R1 r1=> ?_))
   refine aa (aJ (aa (wpAny_operateT (rn (K:=fun v hp=>eM Γ x v hp fun hp=>K .next hp d1) h1 R1 (r0.tr x1.toTr) r1 fun W2 hp2 s2 r vr h2 x2 R2 r2=> ?_))))
   exact aa (aJ (aa (wpAny_bindName (eW h2 ((Y.le x1 R1).le x2 R2) r2 fun W3 hp3 s3 h3 x3 R3=>ao (P _ _ _ .next .next _ h3 ((x1.trans x2).trans x3) R3 trivial)))))
  ·have e0:exec (.AugAssign (.Attribute o name tp) op e p) env=(do
     dI p
     let ov ←eval o env
     let new ←holding [ov] do
      dI tp.atName
      let old ←getAttr ov name true
      let v ←holding [old] (eval e env)
      dI p
      operate [old,v] (inplaceOp op old v)
     dI tp.atName
     holding [new,ov] (setAttr ov name new)
     release [new,ov] []
     pure .next):=rfl
   rw[e0]
   refine aa (aJ (aa (O.ev h Y fun W0 hp0 s0 ov vo d0 h0 x0 R0 r0=> ?_)))
   refine aa (aU (aa (aJ (aa (pb g.toGlbA (K:=fun a hp=>r.ev e Γ hp d0 fun b hp ds=>H6 op a b fun v=>fN (kZ G ov name v hp) fun hp=>K .next hp ds) h0 R0 r0 fun W1 hp1 s1 a va h1 x1 R1 r1=> ?_)))))
   have Y1:=(Y.le x0 R0).le x1 R1
   refine aa (aU (O.ev h1 Y1 fun W2 hp2 s2 b vb d2 h2 x2 R2 r2=> ?_))
   refine aa (aJ (wpAny_operateT (rn (K:=fun v hp=>fN (kZ G ov name v hp) fun hp=>K .next hp d2) h2 R2 (r1.tr x2.toTr) r2 fun W3 hp3 s3 r vr h3 x3 R3 r3=> ?_)))
   refine bO h3 fun hp4 hq h3=> ?_
   have x13:=(x1.trans x2).trans x3
   refine aa (aJ (aa (aU (kY g.toGlbA hq R3 (r0.tr x13.toTr) r3 fun W4 hp5 s4 e4 x4 R4=> ?_))))
   exact aa (wpAny_release (ao (P _ _ _ .next .next _ h3 ((x0.trans x13).trans x4) (e4▸R4) trivial)))
 |If t b o p=>
  have h:cond (b.any yT) (q6 (fun ds K=>zC G r Γ hp ds K (.If t b o p)) ds K) (r.ts t Γ hp ds fun c hp ds=>br c ds fun c ds=>cond c (bf r b Γ hp ds K) (bf r o Γ hp ds K)):=h
  induction q:b.any yT using ah with
  |true=>
   rw[q]at h
   exact nw (show q6 (fun ds K=>zC G r Γ hp ds K (.If t b o p)) ds K from h) (T:=fun K=>∀{Q:Flow→ag→Prop},fR B W s K Q→ar (model B.prog B.w) A (exec (.If t b o p) env) Q E s) (fun ds K h Q P=>Bv g O tp h Y P) (fun mono T Q P=>T fun W' hp' s' f vf d k=>(mono f hp' d k).elim fun d' k'=>P W' hp' s' f vf d' k') P
  |false=> ?_
  rw[q]at h
  rw[exec_If]
  refine aa (aJ (aa (O.ts h Y fun W1 hp1 s1 c d1 h1 x1 R1=> ?_)))
  refine(nD h1).elim fun d h1=> ?_
  induction c using ah with
  |true=>exact fB O tp h1 (Y.le x1 R1) (P.after x1)
  |false=>exact fB O tp h1 (Y.le x1 R1) (P.after x1)
 |For t i body els p=>
  exact nw h (T:=fun K=>∀{Q:Flow→ag→Prop},fR B W s K Q→ar (model B.prog B.w) A (exec (.For t i body els p) env) Q E s) (fun ds K h Q P=>y6 g.toGlbG O tp Co hn h Y P) (fun mono T Q P=>T fun W' hp' s' f vf d k=>(mono f hp' d k).elim fun d' k'=>P W' hp' s' f vf d' k') P
 |Try body hs orelse fin p=>
  exact nw h (T:=fun K=>∀{Q:Flow→ag→Prop},fR B W s K Q→ar (model B.prog B.w) A (exec (.Try body hs orelse fin p) env) Q E s) (fun ds K h Q P=>Bf g O tp hn OL h Y P) (fun mono T Q P=>T fun W' hp' s' f vf d k=>(mono f hp' d k).elim fun d' k'=>P W' hp' s' f vf d' k') P
 |FunctionDef name args body decs returns tps scope tscope bind p=>
  refine bO h fun tag ht h=>bO h fun cl hcl h=>bp h fun h1 h=>bp h fun h2 h=>bp h fun h3 h=>bp h fun h4 h=>bp h fun h5 h=>bp h fun h6 h=>bp h fun h7 h=>bp h fun h8 h=>bp h fun h9 hz=> ?_
  exact B2 g.toGlbOk h1 h2 h3 h4 h9 hcl hz.1 (eq_of_beq h5) (ie h6) (ie h7) h8 hz.2 Y fun W' hp' s' k x y=>P _ _ _ .next .next _ k x y trivial
 |_=>exact h.elim
theorem t7(g:kN B G)(O:fi B (n+1) r)(Co:gz B C n)(hn:1≤n)(OL:tN B (n+1) L L2)(hne: ∀e Γ hp ds K,r.ev e Γ hp ds K→gW e=true→BK e=true):fi B (n+1) (CY G C L L2 r) where
 ev h Y P:=v5 g.toGlbI O Co h Y P
 ts h Y P:=oE g.toGlbA O h Y P
 lc {elt gs scope p Γ hp ds K A W env s Q E use} h Y hEnd:=nv (m:=nh r (G.own p) (G.typ p) elt gs scope Γ hp) h
  (T:=fun K=>(∀D L W' hp' s' v' ds',K v' hp' ds'→a7 W' (.ref D) v'→R B W' hp' s'→Le B W s W' s'→gp B W' L→(∃m,s'.heap.Ns L m)→s.heap.get? L=none→compPost (model B.prog B.w) A E use Q (.ref D) L (.ok .next) s')→
   ar (model B.prog B.w) A (comprehension (.ListComp elt gs scope p) scope env (firstIterPos gs p) (newList []) (firstAsync gs) (firstIter gs env) use) Q E s)
  (fun ds K h hEnd=>q8 O h Y hEnd) (fun mono T hEnd=>T fun D L W' hp' s' v' d k=>(mono v' hp' d k).elim fun d' k'=>hEnd D L W' hp' s' v' d' k') hEnd
 ex h tp Y P:=v4 g O Co hn OL hne tp h Y P
theorem ED{d:Nat}{e:Expr}{K:KV}(h:(LX G C L L2 d).ev e Γ hp ds K)(hc:gW e=true):BK e=true:=by
 cases d with
 |zero=>exact h.elim
 |succ d=>
  have h:CZ G C (LX G C L L2 d) e Γ hp ds K:=h
  induction e using bC with
  |ListComp=>rfl
  |_=>first|exact bh hc|exact h.elim
theorem BZ(g:kN B G)(Co:gz B C n)(hn:1≤n)(OL:tN B (n+1) L L2)(d:Nat):fi B (n+1) (LX G C L L2 d):=by
 induction d with
 |zero=>exact vh
 |succ d ih=>exact t7 g ih Co hn OL fun e Γ hp ds K h=>ED h
end
section
variable{B:bW}{G:fS}{C:cG}{r:Ev}{n:Nat}{Γ:Cx}{A:bv}{W W' W0 W1 W2:Wd}{env cenv:Env}{hp hp' hp2:Hp}{s s' s0 s1 s2:ag}{ds:Ds}{E:Value→ag→Prop}{X:eG}{K:KV}{Q:Value→ag→Prop}
theorem R.freeze{m:Nat}{a:aB}{o:AO}{ob:Obj}(Y:R B W hp s)(hn:W.own[m]? =some a)(e:hp[m]? =some o)(hd:o≠ .dead)(hl: ∀l,o≠ .loc l)(ho:s.heap.get? a=some ob):R B (W.ins a ob) (hp.set m .dead) s:=by
 have hF:=Y.offAt hn e hd
 have t:Tr W (W.ins a ob):=⟨fun M M e=>e,Fz.le_ins hF⟩
 have ne: ∀{k:Nat} {b},W.own[k]? =some b→k≠m→b≠a:=fun{k b} h1 h2 z=>h2 ((List.getElem?_inj (au.mp h1).1 Y.nodup).mp (h1.trans (z▸hn.symm)))
 have hf:a ∉ W.frs:=fun z=>(Y.frO m a hn z).elim fun l q=>hl l (af (e.symm.trans q))
 refine Y.step (fun M=>False) (fun M h=>h.elim) (fun a o M e=>e) rfl rfl t.F (fun b o' h=>(Fz.of_ins h).imp id fun(h:b=a∧o'=ob)=>⟨h.1▸h.2▸ho,h.1▸Y.tab a (c8 hn)⟩) (by rw[List.length_set];exact Y.len) Y.nodup Y.tab (fun k b h=> ?_) (fun k b o' h1 h2=> ?_)
  rfl (fun L q=>Fz.ins_none (Y.frF L q) fun z=>hf (z▸q)) (fun M M h=>h.elim) fun k b h1 h2=>by rw[List.getElem?_set_ne fun(z:m=k)=>hf (af (hn.symm.trans (z▸h1))▸h2)];exact Y.frO k b h1 h2
 ·by_cases hk:k=m
  ·subst hk;exact .inr (List.getElem?_set_self (au.mp e).1)
  ·rw[List.getElem?_set_ne (Ne.symm hk)]
   refine(Y.off k b h).imp (fun z=> ?_) id
   induction q:W.F.ins a ob b using aw with
   |none=>exact q
   |some o'=>exact(Fz.of_ins q).elim (fun w=>nomatch w.symm.trans z) fun w=>absurd w.1 (ne h hk)
 ·by_cases hk:k=m
  ·subst hk
   rw[List.getElem?_set_self (au.mp e).1]at h2
   obtain rfl:=af (hn.symm.trans h1)
   exact af h2▸⟨ob,ho⟩
  ·rw[List.getElem?_set_ne (Ne.symm hk)]at h2
   exact(Y.objs k b o' h1 h2).tr t rfl
theorem K4(v:V): ∀{hp:Hp} {W:Wd} {K:V→Hp→Prop},BQ W0.own.length v hp K→Le B W0 s0 W s→R B W hp s→∃v' hp' W',K v' hp'∧Le B W0 s0 W' s∧R B W' hp' s∧Tr W W'∧(∀va,a7 W va v→a7 W' va v')∧∀l,fJ W l v→fJ W' l v':=by
 have same: ∀{v:V} {hp:Hp} {W:Wd} {K:V→Hp→Prop},K v hp→Le B W0 s0 W s→R B W hp s→∃v' hp' W',K v' hp'∧Le B W0 s0 W' s∧R B W' hp' s∧Tr W W'∧(∀va,a7 W va v→a7 W' va v')∧∀l,fJ W l v→fJ W' l v':=
  fun k x Y=>⟨_,_,_,k,x,Y,.refl _,fun M r=>r,fun M r=>r⟩
 induction v with
 |own m=>
  intro hp W K h x Y
  replace h:cond (bz W0.own.length m) _ (K (.own m) hp):=h
  rcases hb:bz W0.own.length m with _|_<;>rw[hb]at h
  ·exact same h x Y
  ·induction q:hp[m]? using aw with
   |none=>rw[q]at h;exact same h x Y
   |some o=>
    rw[q]at h
    induction o using AO.casesOn with
    |list t l=>
     have hl:m<W.own.length:=Y.len▸(au.mp q).1
     have hn:W.own[m]? =some W.own[m]:=aR hl
     obtain⟨items,k,ho,z,rs⟩:lZ s.heap W.own[m] (bI (ff W.F t) · l):=Y.objs m _ _ hn q
     have h0:s0.heap.get? W.own[m]=none:=(x.newO _ (c8 hn)).elim (fun m2=>by
      obtain⟨j,e⟩:=List.getElem?_of_mem m2
      have hj:=(au.mp e).1
      have:=(List.getElem?_inj (au.mp (x.own j _ e)).1 Y.nodup).mp ((x.own j _ e).trans hn.symm)
      have:=aq hb
      lia) id
     have hF:=Y.offAt hn q nofun
     refine⟨_,_,W.ins W.own[m] {cls:= .type "list",data:= .seq items k},h,⟨x.toTr.trans ⟨fun M M e=>e,Fz.le_ins hF⟩,x.frs,x.newO,fun b o' (q:W.F.ins _ _ b=some o')=>(Fz.of_ins q).elim (x.newF b o') fun q=> .inr (q.1▸h0),x.keep,x.frk,x.live,x.gens⟩,Y.freeze hn q nofun nofun ho,⟨fun M M e=>e,Fz.le_ins hF⟩,fun va r=> ?_,fun M r=>r.elim⟩
     refine(@id (xI W m va) (r)).elim fun a e=> ?_
     obtain rfl:=af (hn.symm.trans e)
     exact .mk _ items k Fz.ins_at z (rs.mono fun M M q=>q.mono (Fz.le_ins hF))
    |_=>exact same h x Y
 |tc a b ia ib=>
  intro hp W K h x Y
  refine(ia (show BQ W0.own.length a hp _ from h) x Y).elim fun a' zz=>zz.elim fun hp1 zz=>zz.elim fun W1 zz=>zz.elim fun h1 zz=>zz.elim fun x1 zz=>zz.elim fun Y1 zz=>zz.elim fun t1 zz=>zz.elim fun ra M=> ?_
  refine(ib h1 x1 Y1).elim fun b' zz=>zz.elim fun hp2 zz=>zz.elim fun W2 zz=>zz.elim fun h2 zz=>zz.elim fun x2 zz=>zz.elim fun Y2 zz=>zz.elim fun t2 zz=>zz.elim fun M rb=> ?_
  refine⟨_,_,W2,h2,x2,Y2,t1.trans t2,fun va r=>eD.mono (t1.trans t2).F (show eD "tuple" W.F _ va from r) fun M r=>r.mono (fun M r=>(ra _ r).tr t2) fun M r=>rb _ ((V2.mono t1 b).2 r),fun l r=>fM.mono (show fM _ _ l from r) (fun M r=>(ra _ r).tr t2) fun M r=>rb _ ((V2.mono t1 b).2 r)⟩
 |_=>intro hp W K h x Y;exact same h x Y
theorem DM{frz:Bool}{v:V}{va:Value}{K:V→Hp→Prop}(h:nj hp.length frz v hp' K)(Y0:R B W hp s)(x:Le B W s W' s')(Y:R B W' hp' s')(rv:a7 W' va v)(P:dH B W s K Q):Q va s':=by
 have fin: ∀{v:V} {hp':Hp} {W':Wd},gB hp.length [v] hp' (fun f hp=>fN (iA f v) fun v=>K v hp)→Le B W s W' s'→R B W' hp' s'→a7 W' va v→Q va s':=fun{v hp' W'} h x Y rv=>qI h Y fun hp2 h hJ Y2 ren=>bO h fun v' hv h=>P _ _ _ v' _ h (x.part hJ fun m hm=>sU (Y0.len▸hm)) Y2 (rv.ren ren hv)
 unfold nj at h
 induction frz using ah with
 |false=>exact fin h x Y rv
 |true=>
  refine(K4 (W0:=W) v (show BQ W.own.length v hp' _ from Y0.len▸h) x Y).elim fun v' zz=>zz.elim fun hp2 zz=>zz.elim fun W2 zz=>zz.elim fun h zz=>zz.elim fun x2 zz=>zz.elim fun Y2 zz=>zz.elim fun M zz=>zz.elim fun r M=> ?_
  exact fin (Y0.len▸h) x2 Y2 (r _ rv)
theorem oL(O:fi B (n+1) r)(g:iy B){fc:eB}{frz mks:Bool}{fd:FuncData}{a:aB}{o:Obj}{args:Args}{cl:List (Str×Nat)}{binds:List (Str×V)}(ho:s.heap.get? a=some o)(hd:o.data= .func fd)(hb:fd.body=fc.body)(hs:fd.scope=fc.scope)(hcode:g5 W.F fd.code)
  (hglob:fd.globals=bb) (hbui:fd.builtins=cC) (hclo:jh W fd.closure cl) (ok:wC fc.scope=true) (hmk:mks=true→∃c P,fd.code= .ref c∧(c,P)∈B.ct)
  (hbind: ∃vbs,BindsTo s fd args vbs∧bI (fun p q=>p.1=q.1∧a7 W p.2 q.2) vbs binds) (h:oM r fc frz mks cl binds hp ds K) (hr:jg A (n+2) W.frs) (Y:R B W hp s) (P:iw B W s K Q):dX (model B.prog B.w) A (.call (.ref a) args) (xH Q E) s:=by
 refine pP g ho hd hb hs hcode hglob hbui hclo ok hmk hbind h hr Y fun{env W5 hp5 s5} h5 tp M Y5 pop=> ?_
 have done: ∀{v:V} {va:Value} {hpe:Hp} {We:Wd} {se:ag} {d:Ds},nj hp.length frz v hpe (fun v hp=>K v hp d)→Le B W5 s5 We se→R B We hpe se→a7 We va v→Q va se:=fun{v va hpe We se d} hl x Ye rv=>DM hl Y (pop x Ye).1 (pop x Ye).2 (rv.tr Wd.trFr) (P.at d)
 induction hbd:fc.body using PySem.FuncBody.casesOn with
 |stmts b=>
  rw[hbd]at h5
  refine codeAny_func (fB O tp h5 Y5 fun We hpe se f vf d hk X Ye rf=> ?_)
  refine bO hk fun v hv hk=> ?_
  induction f using Fl.casesOn with
  |next=>obtain rfl:=af hv;cases vf<;>first|exact done hk X Ye rfl|exact rf.elim
  |ret u=>obtain rfl:=af hv;cases vf<;>first|exact done hk X Ye rf|exact rf.elim
  |_=>injection hv
 |expr e=>
  rw[hbd]at h5
  exact kla_codeExpr (O.ev h5 Y5 fun We hpe se v va d hk X Ye rv=>done hk X Ye rv)
end
section
variable{B:bW}{G:fS}{C:cG}{r:Ev}{n:Nat}{Γ:Cx}{A:bv}{W W' W0 W1 W2:Wd}{hp hp' hp2:Hp}{s s' s0 s1 s2:ag}{ds:Ds}{E:Value→ag→Prop}{K:KV}{Q:Value→ag→Prop}
theorem GB{vbs:List (Str×Value)}: ∀{l:List (Str×V)},vbs.map (·.1)=l.map (·.1)→dD W (vbs.map (·.2)) (l.map (·.2))→Om W vbs l:=by
 induction vbs with
 |nil=>intro l h _;cases l with |nil=>exact .nil|cons _ _=>injection h
 |cons p vbs ih=>
  intro l h r
  induction l using aO with
  |nil=>injection h
  |cons q l=>
   injection h with h1 h2
   cases r with |cons a b=>exact .cons ⟨h1,a⟩ (ih h2 b)
theorem zo{ps:List Arg}: ∀{args:List V} {l:List (Str×V)},pS ps args=some l→l.map (·.1)=ps.map (·.arg)∧l.map (·.2)=args:=by
 induction ps with
 |nil=>intro args l h;cases args with |nil=>cases h;exact⟨rfl,rfl⟩|cons _ _=>cases h
 |cons p ps ih=>
  intro args l h
  induction args using aO with
  |nil=>injection h
  |cons a args=>
   refine kP h fun t h2 z1z=> ?_
   obtain rfl:=z1z
   exact⟨congrArg (_:: ·) (ih h2).1,congrArg (_:: ·) (ih h2).2⟩
theorem Ey{f:Nat→List (Str×Nat)→Prop}{o:Option AO}(h:Pe f o){p:Prop}(k: ∀t cs lk,o=some (.fn t cs lk)→f t cs→p):p:=by
 induction o using aw with
 |none=>exact h.elim
 |some o=>induction o using AO.casesOn with
  |fn t cs lk=>exact k t cs lk rfl h
  |_=>exact h.elim
theorem pC{v:Value}{a:aB}(h:yo v=some a):v= .ref a:=by
 induction v using Value.casesOn with
 |ref=>exact congrArg Value.ref (af h)
 |_=>exact OV h
theorem oF(g:kN B G)(O:fi B (n+1) r):gz B (C0 G r) (n+2) where
 top {a args kw hp ds K} h:=bO (o:=G.fn a) h fun f hf M=>by
  cases g.fn a f hf with |mk o fd ho ht hd=>exact⟨o,fd,ho,ht,hd⟩
 func {W hp s f va args kw ds K} h Y rf:=by
  induction f using V.casesOn with
  |val c=>
   refine bO h fun b hb h=>bO h fun f hf M=> ?_
   obtain rfl:=pC hb
   cases g.fn b f hf with |mk o fd ho ht hd=>exact⟨b,o,fd,rf,Y.old ho ht,hd⟩
  |own m=>
   refine fV (C:=fun M=>∃a o fd,va= .ref a∧s.heap.get? a=some o∧o.data= .func fd) h fun h=>Ey h fun t cs lk q M=> ?_
   refine Y.own (C:=fun va=>∃a o fd,va= .ref a∧s.heap.get? a=some o∧o.data= .func fd) rf q fun a hn ro=> ?_
   obtain⟨fc,fd,od,sl,hf,ok,code,cl,ho,hr⟩:L6 B s.heap W a t cs lk:=ro
   exact⟨a,_,fd,rfl,ho,rfl⟩
  |_=>exact h.elim
 run {A W hp s f va args bw kw kwv ds K Q E} h hr Y rf rs e1 r1 P:=by
  show dX (model B.prog B.w) A (.call va ⟨bw,kwv⟩) (xH Q E) s
  induction f using V.casesOn with
  |val c=>
   refine bO h fun b hb1 h1=>bO h1 fun f hf h2=>bO h2 fun bs hbs h3=> ?_
   obtain rfl:=pC hb1
   obtain rfl:=(show va= .ref b from rf)
   refine jD hbs fun l hl hp'=> ?_
   obtain⟨x,hx,x1,x2,x3⟩:=pO hl
   obtain⟨o,fd,ho,ht,hd,hb,hs,hglob,hbui,hclo,ok,hcode,hmk,hbind⟩:=g.fn b f hf
   obtain⟨vbs,hbt,hrel⟩:=hbind x hx s bw kwv (fun a o e h=>Y.old e h) (rs.length.trans x1.symm) (e1.trans x2.symm)
   exact oL O g.base (Y.old ho ht) hd hb hs (hcode _ Y.base) hglob hbui (hclo▸bI.nil) ok hmk ⟨vbs,hbt,pE (rs.append r1) (x3▸hrel) hp'⟩ h3 hr Y P
  |own m=>
   have h:iu kw (Pe (fun tag cs=>fN (G.code tag) fun fc=>cond (oQ fc.params) (fN (pS fc.params.args args) fun bs=>oM r fc true false cs bs hp ds K) False) hp[m]?):=h
   obtain⟨h,rfl,rfl⟩:=M4 h e1
   refine Ey h fun t cs lk q h=>bO h fun fc hfc h=>bp h fun hpl h=>bO h fun bs hbs h=> ?_
   refine Y.own (C:=fun va=>dX (model B.prog B.w) A (.call va ⟨bw,[]⟩) (xH Q E) s) rf q fun a hn ro=> ?_
   obtain⟨fc2,fd,od,sl,hf,ok,code,cl,ho,hr2⟩:L6 B s.heap W a t cs lk:=ro
   cases (g.code t).symm.trans hfc|>.symm.trans hf
   have k:=g.clos t fc hfc
   refine(zo hbs).elim fun b1 b2=> ?_
   refine(k.bind fd s bw ok.params ok.defaults ok.kwdefaults (by rw[rs.length,←b2,aE,←aE (f:=(·.1)) (as:=bs),b1,aE])).elim fun vbs zz=>zz.elim fun hbt zz=>zz.elim fun n1 n2=> ?_
   exact oL (frz:=true) (mks:=false) O g.base ho rfl ok.body ok.scope code ok.globals ok.builtins cl k.ok (fun h=>nomatch h) ⟨vbs,hbt,GB (n1.trans b1.symm) (by rw[n2,b2];exact rs)⟩ h hr Y P
  |_=>exact h.elim
theorem BC(g:kN B G)(n:Nat):fi B (2*n+1) (yI G n).1∧tN B (2*n+3) (yI G n).1 (yI G n).2:=by
 induction n with
 |zero=>exact⟨vh,1,0,vh,vh,av _,av _⟩
 |succ n ih=>
  have z:fi B (2*n+3) (yI G (n+1)).1:=BZ g (oF g ih.1) (c9 ..) ih.2 30
  exact⟨z,2*n+2,2*n,z,ih.1,cN _,cN _⟩
theorem xA(g:kN B G)(n:Nat):gz B (iI G n) (2*n+2):=oF g (BC g n).1
end
noncomputable def bW.F0(B:bW):Fz:=fun a=>if B.tabs.contains a=true then none else B.h0.get? a
theorem Jk{B:bW}{a:aB}{o:Obj}(h:B.h0.get? a=some o)(ht:a ∉ B.tabs):B.F0 a=some o:=(if_neg fun e=>ht (cO.mp e)).trans h
theorem R.start{p:Program}{w:World}{tabs:List (aB×aB)}{s:ag}{code:Nat→Option eB}(hT:TabsAt tabs s.heap)(hg:s.gens= #[]):R ⟨p,w,s.heap,tabs,s.os,code⟩ ⟨[],(bW.mk p w s.heap tabs s.os code).F0,[]⟩ [] s:=by
 refine⟨fun a o e=> ?_,fun a o e h=>Jk e h,rfl,.nil,nofun,fun M M h=>j5 h,fun M M M h=>j5 h,fun c P hm=> ?_,AllBare.of_eq hg,rfl,nofun,fun M M h=>j5 h⟩
 ·by_cases h:(bW.mk p w s.heap tabs s.os code).tabs.contains a=true
  ·exact(nomatch(if_pos h).symm.trans e)
  ·exact(if_neg h).symm.trans e
 ·exact .mk #[] #[] #[] ((hT _ hm).1.code (hT _ hm).2 (by simp[TriplesOk])) ((hT _ hm).1.tab (hT _ hm).2) ((hT _ hm).1.tab (hT _ hm).2) rfl (fun pos v e=>by simp[codeAmong]at e)
   (if_pos (cO.mpr (aP.mpr ⟨_,hm,rfl⟩)))
theorem GH{p:Program}{w:World}{tabs:List (aB×aB)}{s s':ag}{code:Nat→Option eB}{W:Wd}{hp:Hp}(hT:TabsAt tabs s.heap)(Y:R ⟨p,w,s.heap,tabs,s.os,code⟩ W hp s'):OldK s.heap s'.heap:=by
 have htab: ∀q∈tabs,∃ps,s'.heap.get? q.2=some (tabObj ps):=fun q hq=>by
  cases Y.tabs q.1 q.2 hq with |mk ps _ _ _ t=>exact⟨ps,t.2⟩
 refine⟨fun a o e=> ?_,fun a o e=> ?_⟩
 ·by_cases hb:a∈tabs.map (·.2)
  ·obtain⟨q,hq,rfl⟩:=aP.mp hb
   obtain⟨ps,hP⟩:=htab q hq
   have e2:=(hT q hq).2
   rw[e]at e2;obtain rfl:=af e2
   exact .inr (.inl ⟨((hT q hq).1.tab (hT q hq).2).isCodeTable,rfl,#[],ps,rfl,by rw[Array.empty_append];exact hP⟩)
  ·exact .inl (Y.old e hb)
 ·by_cases hb:a∈tabs.map (·.2)
  ·obtain⟨q,hq,rfl⟩:=aP.mp hb
   obtain⟨ps,hP⟩:=htab q hq
   exact⟨_,hP⟩
  ·exact⟨o,Y.old e hb⟩
theorem tv{F:Fz}{vs:List Value}{ns:List Int}(h:IntsAre vs ns):bI (ff F .int) vs ns:=by
 induction h with
 |nil=>exact .nil
 |cons n t _ ih=>exact .cons (.mk t) ih
theorem G0{p:Program}{w:World}{tabs:List (aB×aB)}{s:ag}{G:fS}{f a:aB}{vs:List Value}{ns:List Int}{N:Nat}{c:ClaimW}{cl:Str→Option aB}{mean:ExcName→Option Value}{args:List WData}
  (g:kN ⟨p,w,s.heap,tabs,s.os,G.code⟩ G) (hT:TabsAt tabs s.heap) (hg:s.gens= #[]) (hl:s.heap.IsList a vs.toArray) (hW:Well w.params s.heap (.ref a) (ofPy (PyData.list (ns.map PyData.int)))) (hi:IntsAre vs ns) (hN:N≤80) (hns:ns.length≤63)
  (hrun:gn (fun ds K=>iI G N (.val (.ref f)) [.lst .int ns] [] [] ds K) (.bool true) []) (hra: ∀cls,c.raises args cls=false) (hpost:c.post args (.bool true) args=true):
  dX (model p w) callerA (.call (.ref f) {pos:=[.ref a]}) (GoodWG c cl mean args s) s:=by
 have Y:=R.start (p:=p) (w:=w) (code:=G.code) hT hg
 refine hrun.elim fun d hrun=> ?_
 have ha:a ∉ tabs.map (·.2):=fun m=>by
  obtain⟨q,hq,rfl⟩:=aP.mp m
  obtain⟨o,ho,hc,_⟩:=hl
  cases (hT q hq).2.symm.trans ho
  injection hc
 have hlist: ∃n,IsL s.heap a vs.toArray n:=by
  obtain⟨o',ho',_,n',hd'⟩:=hl
  cases hW with
  |list e _=>
   rw[e]at ho'
   obtain rfl:=af ho'
   simp only[Data.seq.injEq]at hd'
   exact⟨_,by rw[←hd'.1];exact e⟩
 obtain⟨k,hlist⟩:=hlist
 have hlen:=(tv (F:=fun M=>none) hi).length
 refine codeAny_mono ((xA g N).run (Q:=fun v s'=>v= .bool true∧∃W hp,R ⟨p,w,s.heap,tabs,s.os,G.code⟩ W hp s') (E:=fun M M=>False) (kw:=[]) (kwv:=[]) hrun ?_ Y rfl (bI.one (u:=V.lst Ty.int ns) (eD.mk a vs.toArray k (Jk hlist ha) (by rw[cA,hlen];exact ad hns (by decide)) (tv hi))) rfl .nil ?_) fun r s' hr=> ?_
 ·refine⟨rfl,?_,?_,[],rfl,m9⟩
  ·show 1+claimMargin+4*(2*N+2)+20<recursionLimit
   exact aj (aT (bH (bj 4 (aT (bj 2 hN) 2)) (1+claimMargin)) 20) (by decide)
  ·show 4+40*(2*N+2)+200<cLine
   exact aj (aT (bH (bj 40 (aT (bj 2 hN) 2)) 4) 200) (by decide)
 ·intro W' hp' s' v va ds hk x Y' r
  obtain⟨rfl,_⟩:=hk
  exact⟨r,W',hp',Y'⟩
 ·induction r using Except.casesOn with
  |error e=>exact hr.elim
  |ok fl=>
   induction fl using PySem.Flow.casesOn with
   |ret v=>
    obtain⟨rfl,W',hp',Y'⟩:=hr
    exact⟨.inl ⟨_,_,[],rfl,hra,.bool true,hpost,fun M=>⟨List.nodup_nil,fun M h=>by simp at h⟩⟩,GH hT Y',Y'.os,Y'.gens⟩
   |_=>exact hr.elim
section
variable{prog:Program}{w:World}{A:bv}{R:GenEnd}{Y:Protocol}{n:Nat}{s₀:ag}{c:Code}{fs:List Frame}{s:ag}{env:Env}
 {K:Flow→Sem Fin} {H:Value→Sem Fin} {gd:Bool→Bool} {lv:List Value→List Value}
theorem m5{st:bP}(h:ar (model prog w) (A.over c fs) (exec st env) (fun f s'=>Seg (model prog w) A R Y n s₀ c (K f) fs s') (fun x s'=>Seg (model prog w) A R Y n s₀ c (H x) fs s') s):
  Seg (model prog w) A R Y n s₀ c ((exec st env).wrap K H gd lv) fs s:=seg_wrap h
theorem yj{t:Expr}{b o:List bP}{p:Pos}(h:ar (model prog w) (A.over c fs) (isTrue t env (eval t env)) (fun v s'=>Seg (model prog w) A R Y n s₀ c ((execs (if v=true then b else o) env).wrap K H gd lv) fs s') (fun x s'=>Seg (model prog w) A R Y n s₀ c (H x) fs s') s):
  Seg (model prog w) A R Y n s₀ c ((exec (.If t b o p) env).wrap K H gd lv) fs s:=by
 rw[exec_If]
 show Seg _ A R Y n s₀ c (.at p fun M=>(isTrue t env (eval t env)>>=fun v=>if v=true then execs b env else execs o env).wrap K H gd lv) fs s
 refine seg_at ?_
 rw[Sem.bind_eq_wrap',Sem.wrap_wrap]
 refine seg_wrap (bF h (fun v s' h'=> ?_) fun M M x=>x)
 rcases v with _|_<;>exact h'
noncomputable abbrev AY(env:Env)(K:Flow→Sem Fin)(H:Value→Sem Fin)(gd:Bool→Bool)(lv:List Value→List Value)(r:Result):Sem Fin:=
 ((match r with | .ok f=>(.pure f:Sem Flow)| .error e=> .raise e).onRaise fun(x:Value)=>do
  if(←field x 1)==Value.none then unsupported "frame.own-activation:exception-without-traceback"
  setFlight x env.frame).wrap K H gd lv
theorem Gr{target iter:Expr}{body orelse:List bP}{pos:Pos}(hs: ∀x,foldedSetIterable iter env x=pure x)
  (h:ar (model prog w) (A.over c fs) (eval iter env) (fun x s₁=>ar (model prog w) (A.over c fs) (pyIter x) (fun it s₂=>∀p,Seg (model prog w) A R Y n s₀ (.forLoop target it body orelse env) ((model prog w).den (.forLoop target it body orelse env))
   (.ret (AY env K H gd lv) none (gd false) (lv []) c p []::fs) s₂) (fun x s'=>Seg (model prog w) A R Y n s₀ c (H x) fs s') s₁) (fun x s'=>Seg (model prog w) A R Y n s₀ c (H x) fs s') s):
  Seg (model prog w) A R Y n s₀ c ((exec (.For target iter body orelse pos) env).wrap K H gd lv) fs s:=by
 rw[exec_For]
 have e0:(do dI pos;let x ←foldedSetIterable iter env (←eval iter env);dI iter.pos;runOwn (.forLoop target (←holding [x] (pyIter x)) body orelse env) env:Sem Flow)=
   (do dI pos;let x ←eval iter env;dI iter.pos;let it ←holding [x] (pyIter x);runOwn (.forLoop target it body orelse env) env):=by
  simp only[hs,pure_bind]
 rw[e0]
 show Seg _ A R Y n s₀ c (.at pos fun M=>(eval iter env>>=fun x=>(dI iter.pos>>=fun M=>holding [x] (pyIter x)>>=fun it=>runOwn (.forLoop target it body orelse env) env)).wrap K H gd lv) fs s
 refine seg_at ?_
 rw[Sem.bind_eq_wrap',Sem.wrap_wrap]
 refine seg_wrap (bF h (fun x s₁ h₁=> ?_) fun M M e=>e)
 show Seg _ A R Y n s₀ c (.at iter.pos fun M=>(holding [x] (pyIter x)>>=fun it=>runOwn (.forLoop target it body orelse env) env).wrap K H gd lv) fs s₁
 refine seg_at ?_
 rw[Sem.bind_eq_wrap',Sem.wrap_wrap]
 exact seg_wrap (aU (bF h₁ (fun it s₂ h₂=>seg_call h₂) fun M M e=>e))
noncomputable def vP(target:Expr)(it:Value)(body:List bP)(env:Env)(r:Option Value):Sem Fin:=
 match r with
 |none=>again (.block [] env)
 |some v=>letOwnedTupleGo target it v>>=fun M=>assign target env v>>=fun M=>execs body env>>=fun f=>match f with
  | .next| .cont=>again (.forLoop target it body [] env)
  | .brk=>pure (.done .next)
  | .ret v=>pure (.done (.ret v))
theorem y5{target:Expr}{it:Value}{body:List bP}:forTurn target it body [] env=(dI target.pos>>=fun M=>(pyNext it).onRaise (fun M=>dI {target.pos with line:=0})>>=vP target it body env):=by
 unfold forTurn
 rfl
theorem oG{target:Expr}{it:Value}{body:List bP}
  (h: ∀E,ar (model prog w) (A.over (.forLoop target it body [] env) fs) (pyNext it) (fun r s₁=>match r with
   |none=>Seg (model prog w) A R Y n s₀ (.forLoop target it body [] env) (.pure (.again (.block [] env))) fs s₁
   |some v=>ar (model prog w) (A.over (.forLoop target it body [] env) fs) (letOwnedTupleGo target it v) (fun M s₂=>ar (model prog w) (A.over (.forLoop target it body [] env) fs) (assign target env v) (fun M s₃=>Seg (model prog w) A R Y n s₀ (.forLoop target it body [] env) ((execs body env).wrap (fun f=>match f with
      | .next| .cont=> .pure (.again (.forLoop target it body [] env))
      | .brk=> .pure (.done .next)
      | .ret v=> .pure (.done (.ret v))) (fun e=>(do noteFrame e env;theTreesLotGoes e:Sem Unit).wrap (fun M=> .raise e) .raise id id) id id) fs s₃) E s₂) E s₁) E s):
  Seg (model prog w) A R Y n s₀ (.forLoop target it body [] env) ((model prog w).den (.forLoop target it body [] env)) fs s:=by
 show Seg _ A R Y n s₀ _ ((forTurn target it body [] env).onRaise (fun x=>do noteFrame x env;theTreesLotGoes x)) fs s
 rw[Sem.onRaise_eq_wrap]
 rw[y5,Sem.bind_eq_wrap',Sem.wrap_wrap]
 refine seg_wrap (m:=dI target.pos) (aJ ?_)
 rw[Sem.bind_eq_wrap',Sem.wrap_wrap]
 refine seg_wrap (wpAny_onRaise (bF (h _) (fun r s₁ h₁=> ?_) fun x s' hx=>aJ hx))
 induction r using aw with
 |none=>exact h₁
 |some v=>
  unfold vP
  dsimp only
  rw[Sem.bind_eq_wrap',Sem.wrap_wrap]
  refine seg_wrap (bF h₁ (fun M s₂ h₂=> ?_) fun M M e=>e)
  try dsimp only
  rw[Sem.bind_eq_wrap',Sem.wrap_wrap]
  refine seg_wrap (bF h₂ (fun M s₃ h₃=> ?_) fun M M e=>e)
  try dsimp only
  rw[Sem.bind_eq_wrap',Sem.wrap_wrap]
  rw[Sem.wrap_congr (execs body env) _ _ (K':=fun f=>match f with
      | .next| .cont=> .pure (.again (.forLoop target it body [] env))
      | .brk=> .pure (.done .next)
      | .ret v=> .pure (.done (.ret v))) (H':=(fun e=>(do noteFrame e env;theTreesLotGoes e:Sem Unit).wrap (fun M=> .raise e) .raise id id)) (fun f=>by rcases f with _|_<;>rfl) (fun e=>by
     first|exact Sem.bind_eq_wrap _ _|(show(do noteFrame e env;theTreesLotGoes e:Sem Unit).bind (fun M=> .raise e)=_;rw[Sem.bind_eq_wrap])|rfl)]
  exact h₃
theorem rS{c1:Code}{l:List Value}{g:Bool}{p:Pos}(h:Seg (model prog w) A R Y n s₀ c (K .next) fs s):
  Seg (model prog w) A R Y n s₀ c1 (.pure (.again (.block [] env))) (.ret (AY env K H gd lv) none g l c p []::fs) s:=by
 refine seg_again rfl ?_
 exact seg_leaf (.ok .next) h
end
noncomputable def nb:Str:=ae "addr"
noncomputable def wI:Str:=ae "pos"
noncomputable def wJ:Str:=ae "escape"
noncomputable def Cs:Str:=ae "ch"
noncomputable def Bz:Str:=ae "enumerate"
noncomputable def back:Str:=⟨#[92]⟩
structure dU where
 p:Nat→Pos
 k:Nat→Nat
noncomputable def dU.give(X:dU)(i j:Nat)(e:Expr):bP:= .Expr (.Yield (some (.Tuple [.Name wI (X.p i),e] (X.k j) (X.p (i+1)))) (X.p (i+2))) (X.p (i+3))
noncomputable def dU.set(X:dU)(i j:Nat)(b:Bool):bP:= .Assign [.Name wJ (X.p i)] (.Constant (.bool b) (X.k j) (X.p (i+1))) (X.p (i+2))
noncomputable def dU.target(X:dU):Expr:= .Tuple [.Name wI (X.p 6),.Name Cs (X.p 7)] (X.k 2) (X.p 8)
noncomputable def dU.two(X:dU):Expr:= .BinOp (.Constant (.str back) (X.k 3) (X.p 14)) .Add (.Name Cs (X.p 15)) (X.p 16)
noncomputable def dU.loopBody(X:dU):List bP:=
 [.If (.Name wJ (X.p 13)) [X.give 17 4 X.two,X.set 21 5 false]
  [.If (.Compare (.Name Cs (X.p 24)) [.Eq] [.Constant (.str back) (X.k 6) (X.p 25)] (X.p 26)) [X.set 27 7 true] [X.give 31 8 (.Name Cs (X.p 30))] (X.p 35)] (X.p 36)]
noncomputable def dU.last(X:dU):bP:= .If (.Name wJ (X.p 37)) [X.give 39 10 (.Constant (.str back) (X.k 9) (X.p 38))] [] (X.p 43)
noncomputable def dU.body(X:dU):List bP:=
 [.Assign [.Name wI (X.p 0)] (.Constant (.int 0) (X.k 0) (X.p 1)) (X.p 2),X.set 3 1 false,
  .For X.target (.Call (.Name Bz (X.p 9)) [.Name nb (X.p 10)] [] (X.p 11)) X.loopBody [] (X.p 12),X.last]
structure gb(env:Env):Prop where
 kind:env.scope.kind= .function
 co:env.scope.isCoroutine=false
 addr:env.kindOf nb=some .local
 pos:env.kindOf wI=some .local
 esc:env.kindOf wJ=some .local
 ch:env.kindOf Cs=some .local
 enu:env.kindOf Bz=some .globalImplicit
inductive Fr(L:aB)(p:Int)(b:Bool)(c:Option Nat)(h:dq):Prop
 |mk (m:Str→Option Value) (t:Tok) (ns:h.Ns L m) (pos:m wI=some (.int p t)) (esc:m wJ=some (.bool b)) (ch: ∀d,c=some d→∃u,m Cs=some (.str ⟨#[d]⟩ u))
structure mT(D:List aB)(s s':ag):Prop where
 keep: ∀b o,b ∉ D→s.heap.get? b=some o→s'.heap.get? b=some o
 gens:s'.gens=s.gens
 os:s'.os=s.os
section
variable{prog:Program}{w:World}{A:bv}{env:Env}{s s' s0 s1 s2:ag}{E:Value→ag→Prop}{D D':List aB}{L:aB}{p:Int}{b:Bool}{c:Option Nat}{d:Nat}
theorem mT.refl(D:List aB)(s:ag):mT D s s:=⟨fun M M M e=>e,rfl,rfl⟩
theorem mT.trans(x:mT D s s1)(y:mT D s1 s2):mT D s s2:=⟨fun b o h e=>y.keep b o h (x.keep b o h e),y.gens.trans x.gens,y.os.trans x.os⟩
theorem mT.mono(x:mT D s s')(h: ∀k∈D,k∈D'):mT D' s s':=⟨fun b o hb e=>x.keep b o (fun q=>hb (h b q)) e,x.gens,x.os⟩
theorem dP.stp(x:dP s s'):mT D s s':=⟨fun b o M e=>x.keep b o e,x.gens,x.os⟩
theorem SameBut.stp{h':dq}{t:Nat}(x:dq.SameBut L s.heap h'):mT [L] s {s with heap:=h',toks:=t}:=⟨fun b o hb e=>(x.2 b fun z=>hb (z▸ .head _)).trans e,rfl,rfl⟩
theorem Fr.at{h h':dq}(f:Fr L p b c h)(k: ∀o,h.get? L=some o→h'.get? L=some o):Fr L p b c h':=by
 cases f with |mk m t ns e1 e2 e3=>exact ns.elim fun o n=>n.elim fun es n=>n.elim fun ep n=> .mk m t ⟨o,es,ep,k o n.1,n.2⟩ e1 e2 e3
theorem Fr.alive{h:dq}(f:Fr L p b c h): ∃o,h.get? L=some o:=by
 cases f with |mk m t ns e1 e2 e3=>exact ns.elim fun o n=>n.elim fun es n=>n.elim fun ep n=>⟨o,n.1⟩
theorem lP{x:Str}{v:Value}{m:Str→Option Value}{q:Pos}{Q:Value→ag→Prop}(e:gb env)(hx:env.kindOf x=some .local)(ns:s.heap.Ns env.locals m)(hv:m x=some v)(hd:(x==("__debug__":Str))=false)(h:Q v s):ar (model prog w) A (eval (.Name x q) env) Q E s:=
 wpAny_Name (wpAny_loadName_local e.kind hx ns hv h) hd
theorem Ep{q:Pos}{Q:Bool→ag→Prop}(e:gb env)(f:Fr env.locals p b c s.heap)(h:Q b s):ar (model prog w) A (isTrue (.Name wJ q) env (eval (.Name wJ q) env)) Q E s:=by
 cases f with |mk m t ns e1 e2 e3=>exact wpAny_isTrue_value (lP e e.esc ns e2 (by decide) (wpAny_truthy_bool h))
theorem GG(d:Nat):(([d]:List Nat)==[92])=aS d 92:=Bool.eq_iff_iff.mpr (by rw[beq_iff_eq,Nat.beq_eq];exact⟨fun h=>(List.cons.inj h).1,fun h=>h▸rfl⟩)
theorem Es{k:Nat}{q q1 q2:Pos}{Q:Bool→ag→Prop}(e:gb env)(f:Fr env.locals p b (some d) s.heap)(h: ∀t,Q (aS d 92) {s with toks:=t}):
  ar (model prog w) A (isTrue (.Compare (.Name Cs q) [.Eq] [.Constant (.str back) k q1] q2) env (eval (.Compare (.Name Cs q) [.Eq] [.Constant (.str back) k q1] q2) env)) Q E s:=by
 cases f with |mk m t ns e1 e2 e3=>
  exact(e3 d rfl).elim fun u hu=>wpAny_isTrue_Compare1 (lP e e.ch ns hu (by decide) (wpAny_Constant_str (PySem.P.eq_str (wpAny_truthy_bool (by
   have z:((⟨#[d]⟩:Str).cps.toList==back.cps.toList)=aS d 92:=GG d
   exact z▸h _)))))
noncomputable def Kb(m:Str→Option Value)(y:Str)(v:Value):Str→Option Value:=fun x=>if x=y then some v else m x
theorem qw{m:Str→Option Value}{y:Str}{v:Value}:Kb m y v y=some v:=if_pos rfl
theorem k8{m:Str→Option Value}{x y:Str}{v:Value}{u:Option Value}(h: ¬x=y)(e:m x=u):Kb m y v x=u:=(if_neg h).trans e
theorem nq{y:Str}{v:Value}{m:Str→Option Value}{Q:Unit→ag→Prop}(e:gb env)(hy:env.kindOf y=some .local)(ns:s.heap.Ns env.locals m)(h: ∀s',mT [env.locals] s s'→s'.heap.objs.size=s.heap.objs.size→s'.heap.Ns env.locals (Kb m y v)→Q () s'):
  ar (model prog w) A (storeName env y v) Q E s:=wpAny_storeName_local hy ns (fun h' ns' x=>h _ (SameBut.stp x) x.1 ns') (by rw[e.kind];rfl)
theorem I1{X:dU}{i j:Nat}{b':Bool}{Q:Flow→ag→Prop}(e:gb env)(f:Fr env.locals p b c s.heap)(h: ∀s',mT [env.locals] s s'→Fr env.locals p b' c s'.heap→Q .next s'):ar (model prog w) A (exec (X.set i j b') env) Q E s:=by
 cases f with |mk m t ns e1 e2 e3=>
  exact wpAny_Assign_Name (wpAny_Constant_bool (nq e e.esc ns fun s' x M ns'=>h s' x (.mk _ t ns' (k8 (by decide) e1) qw fun d hd=>(e3 d hd).imp fun u hu=>k8 (by decide) hu)))
inductive QI(D:List aB)(s s':ag)(v:Value)(p:Int)(l:List Nat):Prop
 |mk (T:aB) (t u:Tok) (hv:v= .ref T) (at':s'.heap.get? T=some {cls:= .type "tuple",data:= .seq #[.int p t,.str ⟨l.toArray⟩ u] 0}) (new:s.heap.get? T=none) (out:T ∉ D)
def rE(prog:Program)(w:World)(env:Env)(A:bv)(s:ag)(e:Expr)(l:List Nat):Prop:=∀{Q:Value→ag→Prop} {E:Value→ag→Prop},(∀u t,Q (.str ⟨l.toArray⟩ u) {s with toks:=t})→ar (model prog w) A (eval e env) Q E s
theorem KZ{e2:Expr}{q q1:Pos}{k:Nat}{l:List Nat}{Q:Value→ag→Prop}(e:gb env)(f:Fr env.locals p b c s.heap)(h2:rE prog w env A s e2 l)(he:starEach [e2] env=[(false,eval e2 env)])
  (h: ∀s' T t u,dP s s'→s'.heap.get? T=some {cls:= .type "tuple",data:= .seq #[.int p t,.str ⟨l.toArray⟩ u] 0}→s.heap.get? T=none→Q (.ref T) s'):ar (model prog w) A (eval (.Tuple [.Name wI q,e2] k q1) env) Q E s:=by
 cases f with |mk m t ns e1 _ e3=>
  exact wpAny_Tuple (args_cons (lP e e.pos ns e1 (by decide) (args_cons (h2 fun u t'=>args_nil ⟨show 2≤_ by decide,h _ _ t u (.push s _ t') (aF _ rfl) (cc (av _))⟩) he)))
theorem J3{q:Pos}(e:gb env)(f:Fr env.locals p b (some d) s.heap):rE prog w env A s (.Name Cs q) [d]:=fun{Q E} h=>by
 cases f with |mk m t ns e1 e2 e3=>exact(e3 d rfl).elim fun u hu=>lP e e.ch ns hu (by decide) (h u s.toks)
theorem Da{q:Pos}{k:Nat}:rE prog w env A s (.Constant (.str back) k q) [92]:=fun{Q E} h=>wpAny_Constant_str (h s.toks (s.toks+1))
theorem Gx{X:dU}(e:gb env)(f:Fr env.locals p b (some d) s.heap):rE prog w env A s X.two [92,d]:=fun{Q E} h=>by
 cases f with |mk m t ns e1 e2 e3=>exact(e3 d rfl).elim fun u hu=>wpAny_BinOp (wpAny_Constant_str (lP e e.ch ns hu (by decide) (PyProof.Rows.add_str (fun t' tk=>h t' tk) (show 1+1≤_ by decide))))
end
noncomputable def lr:List Nat→Bool→Bool
 |[],e=>e
 |c::r,e=>cond e (lr r false) (lr r (aS c 92))
theorem yO{r:List Nat}: ∀{i:Nat} {e:Bool},f9 i e r=[]→lr r e=false:=by
 induction r with
 |nil=>intro i e h;cases e;exact rfl;cases h
 |cons c r ih=>
  intro i e h
  induction e using ah with
  |true=>injection h
  |false=>
   have h:cond (aS c 92) (f9 (i+1) true r) (((i:Int),[c])::f9 (i+1) false r)=[]:=h
   show lr r (aS c 92)=false
   rcases q:aS c 92 with _|_<;>rw[q]at h
   ·injection h
   ·exact ih h
noncomputable def il(L SI EN:aB):List aB:=[L,SI,EN]
noncomputable def gD(L SI EN:aB)(fe:Bool):Nat→List aB
 |0=>cond fe [L] (il L SI EN)
 |M+1=>il L SI EN
def zI(D:List aB)(s s':ag):Prop:=∀k∈D,∀o,s.heap.get? k=some o→s'.heap.get? k=some o
noncomputable def gR(L SI EN:aB)(fe:Bool):GenEnd:=fun n s₀ r s₁=>r= .ok (.ret .none)∧n=0∧mT (gD L SI EN fe 0) s₀ s₁
inductive Op(L SI EN:aB)(fe:Bool)(its:List (Int×List Nat))(n:Nat)(s₀:ag)(v:Value)(s₁:ag)(kap:Resume→ag→Prop):Prop
 |mk (p:Int) (l:List Nat) (T:aB) (t u:Tok) (hit:its[its.length-1-n]? =some (p,l)) (hl:l.length≤2) (st:mT (il L SI EN) s₀ s₁) (live: ∀k∈gD L SI EN fe n,∃o,s₁.heap.get? k=some o)
   (hv:v= .ref T) (at':s₁.heap.get? T=some {cls:= .type "tuple",data:= .seq #[.int p t,.str ⟨l.toArray⟩ u] 0}) (new:T ∉ il L SI EN→s₀.heap.get? T=none) (out:T ∉ gD L SI EN fe n)
   (next: ∀s₂,zI (gD L SI EN fe n) s₁ s₂→kap (.send .none) s₂)
noncomputable def gY(L SI EN:aB)(fe:Bool)(its:List (Int×List Nat)):Protocol:=Op L SI EN fe its
structure Hd(L SI EN:aB)(Tn:String)(x:List Nat)(tk:Tok)(i:Nat)(p:Int)(b:Bool)(c:Option Nat)(s:ag):Prop where
 fr:Fr L p b c s.heap
 it:s.heap.IsStrIter SI Tn ⟨x.toArray⟩ tk i
 en: ∃old,IsEnum s.heap EN SI i old
structure vC(prog:Program)(w:World)(A:bv)(env:Env)(SI EN:aB)(Tn:String)(x:List Nat)(tk:Tok):Prop where
 e:gb env
 hh:A.handled=none
 sl:SI≠env.locals
 el:EN≠env.locals
 es:EN≠SI
 draws: ∀A':bv,A'.handled=none→Draws prog w A' SI [SI] (⟨x.toArray⟩:Str).cps.size (fun i v=>∃c u,(⟨x.toArray⟩:Str).cps[i]? =some c∧v= .str ⟨#[c]⟩ u) (fun i h=>h.IsStrIter SI Tn ⟨x.toArray⟩ tk i)
noncomputable abbrev K0(f:Flow):Sem Fin:= .pure (.done (.ret (match f with | .ret v=>v|M=> .none)))
noncomputable abbrev H0(env:Env)(e:Value):Sem Fin:=(leaving env e).wrap (fun M=> .raise e) .raise id id
noncomputable abbrev DZ(env:Env)(X:dU):Flow→Sem Fin:=fun f=>match f with | .next=>(execs [X.last] env).wrap K0 (H0 env) id id|f=>K0 f
section
variable{prog:Program}{w:World}{A:bv}{env:Env}{s s' s₀ s0 s1 s2:ag}{E:Value→ag→Prop}{D D':List aB}{L SI EN:aB}{p:Int}{b fe:Bool}{c:Option Nat}{d i n:Nat}{X:dU}{Tn:String}{x:List Nat}{tk:Tok}{its:List (Int×List Nat)}
 {K:Flow→Sem Fin} {H:Value→Sem Fin} {cd:Code} {fs:List Frame}
theorem y0{k:aB}(h:k∈gD L SI EN fe n):k∈il L SI EN:=by
 induction n using Nat.casesOn with
 |succ n=>exact h
 |zero=>induction fe using ah with
  |false=>exact h
  |true=>exact az.mp h▸ .head _
theorem Et{r:List Nat}{j:Nat}(h:fe=lr r b)(hn:n=(f9 j b r).length):gD L SI EN fe n=il L SI EN:=by
 induction n using Nat.casesOn with
 |succ n=>rfl
 |zero=>exact(h.trans (yO (List.length_eq_zero_iff.mp hn.symm)))▸rfl
theorem zI.of_stp(h:mT [L] s s')(hs:SI≠L)(he:EN≠L):zI [SI,EN] s s':=fun k hk o e=>h.keep k o (fun m=>(aX.mp hk).elim (fun z=>hs (z.symm.trans (az.mp m))) fun z=>he ((az.mp z).symm.trans (az.mp m))) e
theorem Hd.step{p':Int}{b':Bool}{c':Option Nat}(h:Hd L SI EN Tn x tk i p b c s)(f:Fr L p' b' c' s'.heap)(k:zI [SI,EN] s s'):Hd L SI EN Tn x tk i p' b' c' s':=
 ⟨f,h.it.imp fun o q=>⟨k _ (.head _) _ q.1,q.2⟩,h.en.imp fun o q=>k _ (.tail _ (.head _)) _ q⟩
theorem Hd.live(h:Hd L SI EN Tn x tk i p b c s): ∀k∈il L SI EN,∃o,s.heap.get? k=some o:=fun k hk=>
 (aX.mp hk).elim (fun z=>z▸h.fr.alive) fun hk=>(aX.mp hk).elim (fun z=>z▸h.it.imp fun o q=>q.1) fun hk=>az.mp hk▸h.en.elim fun o q=>⟨_,q⟩
theorem Hd.kept(h:Hd L SI EN Tn x tk i p b c s)(k:zI (il L SI EN) s s'):Hd L SI EN Tn x tk i p b c s':=
 ⟨h.fr.at (k _ (.head _)),h.it.imp fun o q=>⟨k _ (.tail _ (.head _)) _ q.1,q.2⟩,h.en.imp fun o q=>k _ (.tail _ (.tail _ (.head _))) _ q⟩
theorem pA(h:mT [L] s s'):mT (il L SI EN) s s':=h.mono fun M m=>az.mp m▸ .head _
theorem uN{i j:Nat}{e2:Expr}{l:List Nat}(e:gb env)(f:Fr env.locals p b c s.heap)(h2:rE prog w env (A.over cd fs) s e2 l)(he:starEach [e2] env=[(false,eval e2 env)])(h0:mT (il env.locals SI EN) s₀ s)
  (hit:its[its.length-1-n]? =some (p,l)) (hl:l.length≤2) (live: ∀k∈gD env.locals SI EN fe n,∃o,s.heap.get? k=some o) (hfs:splitAtGen fs=none) (hfg:fs.any Frame.guarded=false)
  (hnext: ∀s₂,zI (gD env.locals SI EN fe n) s s₂→Seg (model prog w) A (gR env.locals SI EN fe) (gY env.locals SI EN fe its) n s₂ cd (K .next) fs s₂):
  Seg (model prog w) A (gR env.locals SI EN fe) (gY env.locals SI EN fe its) (n+1) s₀ cd ((exec (X.give i j e2) env).wrap K H id id) fs s:=
 seg_Expr_Yield hfs rfl hfg (KZ e f h2 he fun s' T t u g hT hn kap hkap=> .mk p l T t u hit hl (h0.trans g.stp) (fun k hk=>(live k hk).imp fun o q=>g.keep _ _ q) rfl hT
  (fun hD=>by
   induction q:s₀.heap.get? T using aw with
   |none=>rfl
   |some o=>exact nomatch(h0.keep T o hD q).symm.trans hn)
  (fun m=>(live T m).elim fun o q=>nomatch q.symm.trans hn) fun s₂ hk=>hkap .none s₂ (hnext s₂ fun k hk' o q=>hk k hk' o (g.keep _ _ q))) e.co (gt e.kind)
theorem Er{T:aB}{t u:Tok}{j:Int}{Q:Unit→ag→Prop}(e:gb env)(hh:A.handled=none)(f:Fr env.locals p b c s.heap)(hT:s.heap.get? T=some {cls:= .type "tuple",data:= .seq #[.int j t,.str ⟨#[d]⟩ u] 0})
  (h: ∀s',mT [env.locals] s s'→Fr env.locals j b (some d) s'.heap→Q () s'):ar (model prog w) A (assign X.target env (.ref T)) Q E s:=by
 cases f with |mk m t' ns e1 e2 e3=>
  refine wpAny_assign_Tuple hh ⟨_,hT,rfl,_,rfl⟩ rfl rfl fun h1 x1=> ?_
  have g1:dP s {s with heap:=h1}:=⟨fun b o q=>x1 b o (ez q (cc (av _))) q,rfl,rfl⟩
  show ar _ _ (do holding [.str ⟨#[d]⟩ u] (assign (.Name wI (X.p 6)) env (.int j t));assignInOrder ((dG [.Name Cs (X.p 7)] env).map (·.2)) [.str ⟨#[d]⟩ u]) _ _ _
  refine aa (aU (wpAny_assign_Name (nq e e.pos (ns.keeps g1.keep) fun s2 x2 M ns2=> ?_)))
  show ar _ _ (do holding [] (assign (.Name Cs (X.p 7)) env (.str ⟨#[d]⟩ u));assignInOrder [] []) _ _ _
  exact aa (aU (wpAny_assign_Name (nq e e.ch ns2 fun s3 x3 M ns3=>ao (h _ ((g1.stp.trans x2).trans x3) (.mk _ t ns3 (k8 (by decide) qw) (k8 (by decide) (k8 (by decide) e2)) fun d' hd=>⟨u,qw.trans (af hd▸rfl)⟩)))))
theorem Ak{bs:List bP}(e:gb env)(f:Fr env.locals p b c s.heap)(h0:mT (il env.locals SI EN) s₀ s)(hb:fe=b)(hits: ∃pre,its=pre++cond b [(p,[92])] []):
  Seg (model prog w) A (gR env.locals SI EN fe) (gY env.locals SI EN fe its) (cond b [(p,[92])] ([]:List (Int×List Nat))).length s₀ (.func bs env) (DZ env X .next) [] s:=by
 subst hb
 refine dW (yj (Ep e f ?_))
 induction fe using ah with
 |false=>exact dQ (dQ (seg_end (.ok (.ret .none)) ⟨rfl,rfl,h0⟩))
 |true=>
  obtain⟨pre,rfl⟩:=hits
  refine dW (uN e f Da rfl h0 ?_ (by decide) (fun k hk=>az.mp hk▸f.alive) rfl rfl fun s₂ k2=>dQ (dQ (seg_end (.ok (.ret .none)) ⟨rfl,rfl,.refl _ _⟩)))
  rw[bA (by simp)]
  simp
end
section
variable{prog:Program}{w:World}{A:bv}{env:Env}{s s' s₀ s0 s1 s2:ag}{E:Value→ag→Prop}{SI EN:aB}{p:Int}{b fe:Bool}{c:Option Nat}{d i n:Nat}{X:dU}{Tn:String}{x:List Nat}{tk:Tok}{its:List (Int×List Nat)}
 {bs:List bP} {lv:List Value} {p0:Pos}
def xK(prog:Program)(w:World)(A:bv)(env:Env)(SI EN:aB)(fe:Bool)(its:List (Int×List Nat))(X:dU)(bs:List bP)(lv:List Value)(p0:Pos)(n:Nat)(s₀:ag)(t:Sem Fin)(s:ag):Prop:=
 Seg (model prog w) A (gR env.locals SI EN fe) (gY env.locals SI EN fe its) n s₀ (.forLoop X.target (.ref EN) X.loopBody [] env) t [.ret (AY env (DZ env X) (H0 env) id id) none false lv (.func bs env) p0 []] s
noncomputable def Nf(env:Env)(SI EN:aB)(X:dU):Sem Fin:= .pure (.again (.forLoop X.target (.ref EN) X.loopBody [] env))
theorem HB(Z:vC prog w A env SI EN Tn x tk){A':bv}(hh:A'.handled=none)(h:Hd env.locals SI EN Tn x tk i p b c s)(hx:x[i]? =some d){Q:ag→Prop}
  (k: ∀s',mT (il env.locals SI EN) s s'→Hd env.locals SI EN Tn x tk (i+1) i b (some d) s'→Q s'):
  ar (model prog w) A' (pyNext (.ref EN)) (fun r s₁=>∃v,r=some v∧ar (model prog w) A' (letOwnedTupleGo X.target (.ref EN) v) (fun M s₂=>ar (model prog w) A' (assign X.target env v) (fun M s₃=>Q s₃) E s₂) E s₁) E s:=by
 refine h.en.elim fun old he=> ?_
 have hlt:i<(⟨x.toArray⟩:Str).cps.size:=(au.mp hx).1
 refine wpAny_pyNext_enum_itemD (Z.draws _ hh) he h.it hlt Z.es (fun m=>Z.es (az.mp m)) fun v h1 tk1 hP hout hst hT M hk1=>⟨_,rfl,wpAny_letOwnedTupleGo_enum hout fun h2 hen hs2=> ?_⟩
 obtain⟨d',u,hd',rfl⟩:=hP
 rw[show(⟨x.toArray⟩:Str).cps[i]? =x[i]? from List.getElem?_toArray,hx]at hd'
 obtain rfl:=af hd'
 have ne:s.heap.objs.size≠EN:=fun z=>ez he (cc (av _)) z.symm
 have k2: ∀a o,a≠EN→a≠SI→s.heap.get? a=some o→h2.get? a=some o:=fun a o n1 n2 e=>(hs2.2 a n1).trans (hk1 a o n1 n2 e)
 refine Er (s:={s with heap:=h2,toks:=tk1+1}) Z.e hh (h.fr.at fun o e=>k2 _ o Z.el.symm Z.sl.symm e) ((hs2.2 _ ne).trans hT) fun s3 st3 f3=>k s3 ?_ ?_
 ·exact mT.trans (s1:={s with heap:=h2,toks:=tk1+1}) ⟨fun a o hn e=>k2 a o (fun z=>hn (z▸ .tail _ (.tail _ (.head _)))) (fun z=>hn (z▸ .tail _ (.head _))) e,rfl,rfl⟩ (pA st3)
 ·exact Hd.step (s:={s with heap:=h2,toks:=tk1+1}) ⟨h.fr.at fun o e=>k2 _ o Z.el.symm Z.sl.symm e,hst.imp fun o q=>⟨(hs2.2 _ Z.es.symm).trans q.1,q.2⟩,_,hen⟩ f3 (.of_stp st3 Z.sl Z.el)
theorem Ld(Z:vC prog w A env SI EN Tn x tk){A':bv}(hh:A'.handled=none)(h:Hd env.locals SI EN Tn x tk x.length p b c s){Q:Option Value→ag→Prop}
  (k: ∀s',mT (il env.locals SI EN) s s'→Fr env.locals p b c s'.heap→Q none s'):ar (model prog w) A' (pyNext (.ref EN)) Q E s:=
 h.en.elim fun old he=>wpAny_pyNext_enum_endD (Z.draws _ hh) he h.it fun h' hx=>k _ ⟨fun a o hn e=>hx a o (fun z=>hn (z▸ .tail _ (.head _))) e,rfl,rfl⟩ (h.fr.at fun o e=>hx _ o Z.sl.symm e)
theorem F6(e:gb env){r:List Nat}(ne1:SI≠env.locals)(ne2:EN≠env.locals)(h:Hd env.locals SI EN Tn x tk (i+1) i b (some d) s)(h0:mT (il env.locals SI EN) s₀ s)(hf:fe=lr (d::r) b)(hits: ∃pre,its=pre++f9 i b (d::r))
  (again: ∀{b' s₀ s},Hd env.locals SI EN Tn x tk (i+1) i b' (some d) s→mT (il env.locals SI EN) s₀ s→fe=lr r b'→(∃pre,its=pre++f9 (i+1) b' r)→xK prog w A env SI EN fe its X bs lv p0 (f9 (i+1) b' r).length s₀ (Nf env SI EN X) s):
  xK prog w A env SI EN fe its X bs lv p0 (f9 i b (d::r)).length s₀ ((execs X.loopBody env).wrap (fun f=>match f with
      | .next| .cont=> .pure (.again (.forLoop X.target (.ref EN) X.loopBody [] env))
      | .brk=> .pure (.done .next)
      | .ret v=> .pure (.done (.ret v))) (fun e=>(do noteFrame e env;theTreesLotGoes e:Sem Unit).wrap (fun M=> .raise e) .raise id id) id id) s:=by
 have it: ∀{y:Int×List Nat} {l pre:List (Int×List Nat)},its=pre++y::l→its[its.length-1-l.length]? =some y∧∃pre,its=pre++l:=fun{y l pre} q=>⟨by
  rw[q,ak,b4,show pre.length+(l.length+1)-1-l.length=pre.length from Nat.add_sub_cancel _ _,bA (av _),Nat.sub_self];rfl,pre++[y],by rw[q,aQ];rfl⟩
 obtain⟨pre,hits⟩:=hits
 unfold xK at again ⊢
 unfold dU.loopBody
 refine dW (yj (Ep e h.fr ?_))
 induction b using ah with
 |true=>
  have hits:its=pre++((i:Int),[92,d])::f9 (i+1) false r:=hits
  have hf:fe=lr r false:=hf
  have hD:gD env.locals SI EN fe (f9 (i+1) false r).length=il env.locals SI EN:=Et hf rfl
  refine dW (uN e h.fr (Gx e h.fr) rfl h0 (it hits).1 (av _) (hD▸h.live) rfl rfl fun s₂ k2=> ?_)
  refine dW (m5 (I1 e (h.kept (hD▸k2)).fr fun s3 st3 f3=>dQ (dQ ?_)))
  exact again ((h.kept (hD▸k2)).step f3 (.of_stp st3 ne1 ne2)) (pA st3) hf (it hits).2
 |false=>
  refine dW (yj (Es e h.fr fun t=> ?_))
  have g:=dP.toks s t
  have h':Hd env.locals SI EN Tn x tk (i+1) i false (some d) {s with toks:=t}:=h.kept fun M M M q=>q
  have h0':=h0.trans (s2:={s with toks:=t}) g.stp
  have hf:fe=lr r (aS d 92):=hf
  have hits:its=pre++cond (aS d 92) (f9 (i+1) true r) (((i:Int),[d])::f9 (i+1) false r):=hits
  show Seg _ _ _ _ (cond (aS d 92) (f9 (i+1) true r) (((i:Int),[d])::f9 (i+1) false r)).length _ _ _ _ _
  induction q:aS d 92 using ah with
  |true=>
   rw[q]at hf hits
   exact dW (m5 (I1 e h'.fr fun s3 st3 f3=>dQ (dQ (dQ (again (h'.step f3 (.of_stp st3 ne1 ne2)) (h0'.trans (pA st3)) hf ⟨pre,hits⟩)))))
  |false=>
   rw[q]at hf hits
   have hD:gD env.locals SI EN fe (f9 (i+1) false r).length=il env.locals SI EN:=Et hf rfl
   exact dW (uN e h'.fr (J3 e h'.fr) rfl h0' (it hits).1 (cN _) (hD▸h'.live) rfl rfl fun s₂ k2=>dQ (dQ (dQ (again (h'.kept (hD▸k2)) (.refl _ _) hf (it hits).2))))
theorem GS(Z:vC prog w A env SI EN Tn x tk): ∀(r:List Nat) (i:Nat) (b:Bool) (c:Option Nat) (p:Int) (s₀ s:ag),x.drop i=r→i≤x.length→Hd env.locals SI EN Tn x tk i p b c s→mT (il env.locals SI EN) s₀ s→(p=((i-1:Nat):Int)∨b=false)→fe=lr r b→(∃pre,its=pre++f9 i b r)→
  xK prog w A env SI EN fe its X bs lv p0 (f9 i b r).length s₀ ((model prog w).den (.forLoop X.target (.ref EN) X.loopBody [] env)) s:=by
 intro r
 have hh:(A.over (.forLoop X.target (.ref EN) X.loopBody [] env) [.ret (AY env (DZ env X) (H0 env) id id) none false lv (.func bs env) p0 []]).handled=none:=by
  simpa [bv.over,marksOver,Frame.marks,markOver]using Z.hh
 induction r with
 |nil=>
  intro i b c p s₀ s hd hi h h0 hp hf hits
  obtain rfl:=cK hi (List.drop_eq_nil_iff.mp hd)
  refine oG fun E'=>Ld Z hh h fun s1 st1 f1=>rS ?_
  induction b using ah with
  |false=>exact Ak (p:=p) (b:=false) Z.e f1 (h0.trans st1) hf hits
  |true=>
   obtain rfl:=hp.resolve_right nofun
   exact Ak Z.e f1 (h0.trans st1) hf hits
 |cons d r ih=>
  intro i b c p s₀ s hd hi h h0 hp hf hits
  have hx:x[i]? =some d:=by rw[←List.head?_drop,hd];rfl
  have hd2:x.drop (i+1)=r:=by rw[←List.drop_drop,hd];rfl
  have hlt:i<x.length:=(au.mp hx).1
  refine oG fun E'=>bF (HB (E:=E') (Q:=fun s3=>xK prog w A env SI EN fe its X bs lv p0 (f9 i b (d::r)).length s₀ ((execs X.loopBody env).wrap (fun f=>match f with
      | .next| .cont=> .pure (.again (.forLoop X.target (.ref EN) X.loopBody [] env))
      | .brk=> .pure (.done .next)
      | .ret v=> .pure (.done (.ret v))) (fun e=>(do noteFrame e env;theTreesLotGoes e:Sem Unit).wrap (fun M=> .raise e) .raise id id) id id) s3) Z hh h hx fun s3 st3 h3=> ?_) (fun r s1 q=>q.elim fun v q=>q.1▸q.2) fun M M q=>q
  exact F6 Z.e Z.sl Z.el h3 (h0.trans st3) hf hits fun{b' s₀ s} h' h0' hf' hits'=>seg_again rfl (ih (i+1) b' (some d) i s₀ s hd2 hlt h' h0' (.inl rfl) hf' hits')
end
section
variable{prog:Program}{w:World}{A:bv}{E:Value→ag→Prop}{s:ag}
theorem qv{a:aB}{g n:Nat}{gs:GenState}{P:Nat→ag→ag→Prop}{Y:Protocol}{Q:Option Value→ag→Prop}(hh:A.handled=none)
  (hl:s.heap.NoLimit) (hroom:A.depth<recursionLimit) (hg:s.heap.IsGen a g) (hgs:s.gens[g]? =some gs)
  (hgo:gs.Goes (model prog w) A.in1 (fun n s₀ r s₁=>r= .ok (.ret .none)∧P n s₀ s₁) Y n (.send .none) (s.setGen g .running))
  (hY: ∀v s₁ gs',gs'.bare=true→Y (n-1) (s.setGen g .running) v s₁ (fun r' s''=>match n with
    |0=>False
    |m+1=>gs'.Goes (model prog w) A.in1 (fun n s₀ r s₁=>r= .ok (.ret .none)∧P n s₀ s₁) Y m r' s'')→Q (some v) (s₁.setGen g gs'))
  (hP: ∀s₁,P n (s.setGen g .running) s₁→∀h',(∀b o,s₁.heap.get? b=some o→h'.get? b=some o)→Q none {s₁.setGen g .finished with heap:=h'}):
  ar (model prog w) A (pyNext (.ref a)) Q E s:=by
 unfold pyNext
 refine aa (wpAny_attempt (wpAny_callSpecial?_slot (name:=ae "__next__") hg.typeIs slot_gen_next
  (wpAny_call_entry slot_gen_next hg.typeIs entry_gen_next ?_ (args_gen_next _))))
 show ar _ A.in1 (Builtin.Generator.genWake (.ref a) (.send .none)) _ _ s
 unfold Builtin.Generator.genWake
 refine aa (aU (wpAny_genNumber hg (aa (wpAny_genState hgs ?_))))
 induction gs using PySem.GenState.casesOn with
 |running=>exact hgo.elim
 |finished=>exact hgo.elim
 |_=>
  refine aa (wpAny_roomToWake hl hroom ?_)
  refine wpAny_resumeQ hgs hgo (fun x s₁ hx=> ?_) (fun v s₁ gs' hb hv=> ?_)
  ·obtain⟨rfl,hp⟩:=hx
   show ar _ A.in1 (newExc (.type "StopIteration") []>>=_) _ _ _
   refine aa ?_
   simp only[newExc,newTuple]
   refine aa (dt ?_ (by size_fits))
   refine aa (m:=firstArgMember _ _) (bq (a:=Value.none) (by first|rfl|(simp only[firstArgMember];rfl)) ?_)
   refine dt ?_ (by size_fits)
   unfold raiseNew
   refine aa (aa (m:=handled) (wpAny_handled ?_))
   first|rw[show A.in1.handled=none from hh]|rw[hh]
   refine wpAny_throw ?_
   refine aa (wpAny_isInstance (T:="StopIteration") (b:=true) ⟨_,aF _ rfl,rfl⟩ isSubtype_stop ?_)
   exact ao (hP s₁ hp _ fun b o hb=>aD _ (aD _ hb))
  ·exact ao ⟨v,rfl,ao (hY v s₁ gs' hb hv)⟩
end
theorem iM{s:ag}{g g':Nat}{y:GenState}(h:g'≠g):(s.setGen g y).gens[g']? =s.gens[g']? :=Array.getElem?_setIfInBounds_ne (Ne.symm h)
theorem jr{s:ag}{g:Nat}{y:GenState}(h:AllBare s.gens)(hy:y.bare=true):AllBare (s.setGen g y).gens:=fun z hz=>(Array.mem_or_eq_of_mem_setIfInBounds hz).elim (h z) fun e=>e▸hy
section
variable{B:bW}{A:bv}{W W':Wd}{hp hp':Hp}{s s' s1 s0:ag}{E:Value→ag→Prop}{D:List aB}{f:eG}{g:Nat}{gs:GenState}{T I:aB}{its:List (Int×List Nat)}{i:Nat}
theorem R.regen(Y:R B W hp s){gs:Array GenState}(h:AllBare gs):R B W hp {s with gens:=gs}:=⟨Y.sub,Y.base,Y.len,Y.nodup,Y.tab,Y.off,Y.objs,Y.tabs,h,Y.os,Y.frs,Y.frO⟩
theorem R.moved(Y:R B W hp s)(hD: ∀k∈D,gp B W k)(hk: ∀b o,b ∉ D→s.heap.get? b=some o→s'.heap.get? b=some o)(hg:AllBare s'.gens)(ho:s'.os=s.os):R B W hp s':=
 (Y.step (s':={s' with gens:=s.gens}) (· ∈D) (fun a m=>⟨.inl (hD a m).F,(hD a m).tab⟩) hk rfl ho (fun M M e=>e) (fun M M=> .inl) Y.len Y.nodup Y.tab Y.off (fun n b o h1 h2=>have q:=Y.objs n b o h1 h2
  q.tr (.refl W) (q.alive.elim fun M e=>(hk b _ (fun m=>(hD b m).own (c8 h1)) e).trans e.symm)) rfl Y.frF (fun L m z=>absurd m (hD L z).frs) Y.frO).regen hg
theorem R.stp(Y:R B W hp s)(hD: ∀k∈D,gp B W k)(x:mT D s s'):R B W hp s':=Y.moved hD x.keep (x.gens▸Y.gens) x.os
theorem R.know(Y:R B W hp s)(p:gp B W T){o:Obj}(e:s.heap.get? T=some o):R B (W.ins T o) hp s:=
 have t:Tr W (W.ins T o):=⟨fun M M e=>e,Fz.le_ins p.F⟩
 Y.step (fun M=>False) (fun M h=>h.elim) (fun M M M e=>e) rfl rfl t.F (fun b o' h=>(Fz.of_ins h).imp id fun(h:b=T∧o'=o)=>⟨h.1▸h.2▸e,h.1▸p.tab⟩) Y.len Y.nodup Y.tab
  (fun n b h=>(Y.off n b h).imp (fun z=>by
   induction q:W.F.ins T o b using aw with
   |none=>exact q
   |some o'=>exact(Fz.of_ins q).elim (fun w=>nomatch w.symm.trans z) fun w=>absurd (c8 h) (w.1▸p.own)) id)
  (fun n b o' h1 h2=>(Y.objs n b o' h1 h2).tr t rfl) rfl (fun L m=>Fz.ins_none (Y.frF L m) fun z=>p.frs (z▸m)) (fun M M h=>h.elim) Y.frO
noncomputable def uW(q:Int×List Nat):V:= .tc (.int q.1) (.tc (.str q.2) .t0)
inductive QH(B:bW)(A:bv)(f:eG)(I:aB)(g:Nat)(its:List (Int×List Nat))(i:Nat)(W:Wd)(s:ag):Prop
 |mk (D:List aB) (gs:GenState) (priv: ∀k∈I::D,gp B W k) (foot: ∀k∈I::D,f.a k) (gen:s.heap.IsGen I g) (live: ∀k∈D,∃o,s.heap.get? k=some o) (low: ∀k,s.heap.get? k=none→f.a k) (hgs:s.gens[g]? =some gs)
  (goes: ∀W₂ hp₂ s₂,R B W₂ hp₂ s₂→(∀k∈I::D,gp B W₂ k)→zI (I::D) s s₂→∃L SI EN fe,I ∉ il L SI EN∧(∀k∈gD L SI EN fe (its.length-i),k∈D∨s₂.heap.get? k=none)∧
   gs.Goes (model B.prog B.w) A.in1 (gR L SI EN fe) (gY L SI EN fe its) (its.length-i) (.send .none) s₂)
theorem yZ(hG:iy B)(hh:A.handled=none)(hr:A.depth<recursionLimit)(hf:f.g g){W0:Wd}:
  rC B A I f (its.map uW) (fun M=>True) W0 (QH B A f I g its) where
 next {i W hp s x Q E} at' tr Y _ hx hQ:=by
  cases at' with |mk D gs pr ft ig lv lo hgs go=> ?_
  have Y1:R B W hp (s.setGen g .running):=Y.regen (jr Y.gens rfl)
  refine(go W hp _ Y1 pr fun M M M e=>e).elim fun L zz=>zz.elim fun SI zz=>zz.elim fun EN zz=>zz.elim fun fe zz=>zz.elim fun hI zz=>zz.elim fun hD hgo=> ?_
  obtain⟨⟨p,l⟩,ex,rfl⟩: ∃q,its[i]? =some q∧uW q=x:=bG.mp ((List.getElem?_map ..).symm.trans hx)
  have hil:i<its.length:=(au.mp ex).1
  refine qv (P:=fun n s₀ s₁=>n=0∧mT (gD L SI EN fe 0) s₀ s₁) (Y:=gY L SI EN fe its) hh (j3 Y hG) hr ig hgs hgo (fun v s₁ gs' hb hy=> ?_) fun s₁ hp=>absurd hp.1 (cx (Nat.sub_pos_of_lt hil))
  cases hy with |mk p' l' T t u hit hl st live hv at' new out next=> ?_
  subst hv
  have en:its.length-i=(its.length-(i+1))+1:=(Nat.succ_pred_eq_of_pos (Nat.sub_pos_of_lt hil)).symm
  rw[show its.length-1-(its.length-i-1)=i by rw[Nat.sub_right_comm its.length i 1,Nat.sub_sub_self (Nat.le_sub_one_of_lt hil)],ex]at hit
  cases hit
  rw[Nat.sub_sub its.length i 1]at live out next
  rw[en]at hD next
  have pD: ∀k∈il L SI EN,gp B W k:=fun k m=>(hD k m).elim (fun m=>pr k (.tail _ m)) Y.fresh
  have fD: ∀k∈il L SI EN,f.a k:=fun k m=>(hD k m).elim (fun m=>ft k (.tail _ m)) (lo k)
  have pT:gp B W T:=(Classical.em (T∈il L SI EN)).elim (pD T) fun m=>Y.fresh (new m)
  have Y2:R B W hp (s₁.setGen g gs'):=Y1.moved (s':=s₁.setGen g gs') pD st.keep (jr (st.gens▸Y1.gens) hb) st.os
  have kI: ∀o,s.heap.get? I=some o→s₁.heap.get? I=some o:=fun o e=>st.keep I o hI e
  have lv2: ∀a,a ∉ il L SI EN→s₁.heap.get? a=none→s.heap.get? a=none:=fun a m n=>by
   cases q:s.heap.get? a with
   |none=>rfl
   |some o=>exact nomatch(st.keep a o m q).symm.trans n
  refine hQ _ _ (W.ins T {cls:= .type "tuple",data:= .seq #[.int p t,.str ⟨l.toArray⟩ u] 0}) (.mk T #[.int p t,.str ⟨l.toArray⟩ u] 0 Fz.ins_at (show 2≤bS by decide) (.mk _ _ (.mk t) (.mk _ _ (.mk u (ad hl (by decide))) rfl))) ?_ (Y2.know pT at') (.mk (gD L SI EN fe (its.length-(i+1))) gs' ?_ ?_ (ig.imp fun o q=>q.imp fun nm q=>q.imp fun qn q=>⟨kI o q.1,q.2⟩) live (fun k n=>(Classical.em (k∈il L SI EN)).elim (fD k) fun m=>lo k (lv2 k m n)) (setGen_self (st.gens▸setGen_self hgs)) ?_)
  ·exact⟨⟨fun M M e=>e,Fz.le_ins pT.F⟩,rfl,fun a h=> .inl h,fun a o h=>(Fz.of_ins h).imp id fun(z:a=T∧_)=>z.1▸(Classical.em (T∈il L SI EN)).elim (fun m=> .inr (fD T m)) fun m=> .inl (new m),fun a o e M M M h=>st.keep a o (fun m=>h (fD a m)) e,fun L M M h=> .of fun o e=>st.keep L o (fun m=>h (fD L m)) e,fun a h n=>lv2 a (fun m=>h (fD a m)) n,fun g' z e h=>by
     have ne:g'≠g:=fun q=>h (q▸hf)
     rw[iM ne,st.gens,iM ne]
     exact e⟩
  ·intro k m
   have pk:gp B W k:=(aX.mp m).elim (fun z=>pr k (z▸ .head _)) fun m=>pD k (y0 m)
   have ne:k≠T:=fun z=>(aX.mp m).elim (fun q=>ig.elim fun o w=>w.elim fun M w=>w.elim fun M w=>hI (by
    have:I=T:=q.symm.trans z
    exact(Classical.em (T∈il L SI EN)).elim (fun m=>this▸m) fun m=>nomatch(this▸w.1:s.heap.get? T=some o).symm.trans (new m))) fun m=>out (z▸m)
   exact⟨pk.own,by
    cases q:(W.ins T _).F k with
    |none=>rfl
    |some o=>exact(Fz.of_ins q).elim (fun w=>nomatch w.symm.trans pk.F) fun w=>absurd w.1 ne,pk.tab,pk.frs⟩
  ·exact fun k m=>(aX.mp m).elim (fun z=>ft k (z▸ .head _)) fun m=>fD k (y0 m)
  ·exact fun W₂ hp₂ s₂ Y₂ p₂ k₂=>⟨L,SI,EN,fe,hI,fun k m=> .inl m,next s₂ fun k m=>k₂ k (.tail _ m)⟩
 done {i W hp s Q E} at' tr Y _ hx hQ:=by
  cases at' with |mk D gs pr ft ig lv lo hgs go=> ?_
  have Y1:R B W hp (s.setGen g .running):=Y.regen (jr Y.gens rfl)
  obtain⟨L,SI,EN,fe,hI,hD,hgo⟩:=go W hp _ Y1 pr fun M M M e=>e
  have n0:its.length-i=0:=by
   have:=dY.mp hx
   rw[aE]at this
   exact Nat.sub_eq_zero_of_le this
  rw[n0]at hD hgo
  refine qv (P:=fun n s₀ s₁=>n=0∧mT (gD L SI EN fe 0) s₀ s₁) (Y:=gY L SI EN fe its) hh (j3 Y hG) hr ig hgs hgo (fun v s₁ gs' hb hy=> ?_) fun s₁ hp h' hk=> ?_
  ·cases hy with |mk p' l' T t u hit hl st live hv at' new out next=>exact(next s₁ fun M M M e=>e).elim
  ·have st:=hp.2
   have pD: ∀k∈gD L SI EN fe 0,gp B W k:=fun k m=>(hD k m).elim (fun m=>pr k (.tail _ m)) Y.fresh
   have fD: ∀k∈gD L SI EN fe 0,f.a k:=fun k m=>(hD k m).elim (fun m=>ft k (.tail _ m)) (lo k)
   have kk: ∀a o,a ∉ gD L SI EN fe 0→s.heap.get? a=some o→h'.get? a=some o:=fun a o m e=>hk a o (st.keep a o m e)
   refine hQ _ ?_ (Y1.moved (s':={s₁.setGen g .finished with heap:=h'}) pD kk (jr (st.gens▸Y1.gens) rfl) st.os)
   exact⟨.refl W,rfl,fun a h=> .inl h,fun a o h=> .inl h,fun a o e M M M h=>kk a o (fun m=>h (fD a m)) e,fun L M M h=> .of fun o e=>kk L o (fun m=>h (fD L m)) e,fun a h n=>by
     cases q:s.heap.get? a with
     |none=>rfl
     |some o=>exact(nomatch(kk a o (fun m=>h (fD a m)) q).symm.trans n),fun g' z e h=>by
     have ne:g'≠g:=fun q=>h (q▸hf)
     rw[iM ne,st.gens,iM ne]
     exact e⟩
 keep {i X W hp s W' hp' s'} at' Y x hX hg hA Y':=by
  cases at' with |mk D gs pr ft ig lv lo hgs go=> ?_
  have al: ∀k∈I::D,∃o,s.heap.get? k=some o:=fun k m=>(aX.mp m).elim (fun z=>z▸ig.imp fun o q=>q.elim fun M q=>q.elim fun M q=>q.1) (lv k)
  have kp: ∀k∈I::D,∀o,s.heap.get? k=some o→s'.heap.get? k=some o:=fun k m o e=>(x.priv (pr k m) (hX k (ft k m)) e).2
  exact .mk D gs (fun k m=>(al k m).elim fun o e=>(x.priv (pr k m) (hX k (ft k m)) e).1) ft (ig.imp fun o q=>q.imp fun nm q=>q.imp fun qn q=>⟨kp I (.head _) o q.1,q.2⟩) (fun k m=>(lv k m).imp fun o e=>kp k (.tail _ m) o e) (fun k n=>lo k (x.live k (fun q=>(hA k q).elim fun o e=>nomatch e.symm.trans n) n)) (x.gens _ _ hgs (hg g hf))
   fun W₂ hp₂ s₂ Y₂ p₂ k₂=>go W₂ hp₂ s₂ Y₂ p₂ fun k m o e=>k₂ k m o (kp k m o e)
 less at' hF hO hf:=by
  cases at' with |mk D gs pr ft ig lv lo hgs go=>exact .mk D gs (fun k m=>(pr k m).less hF hO hf) ft ig lv lo hgs go
 letGo at' h:=by
  cases at' with |mk D gs pr ft ig lv lo hgs go=>exact ig.elim fun o q=>q.elim fun M q=>q.elim fun M q=>ni q.1 q.2.1 (by decide) h
 self at' h:=by
  cases at' with |mk D gs pr ft ig lv lo hgs go=>exact wpAny_pyIter_gen ig h
end
inductive Jl(B:bW)(a:aB):Prop
 |mk (o:Obj) (fd:FuncData) (X:dU) (c:aB) (oc:Obj) (vs:Array Value) (tq:Tok) (ho:B.h0.get? a=some o) (ht:a ∉ B.tabs) (hd:o.data= .func fd) (body:fd.body= .stmts X.body) (gen:fd.scope.isGenerator=true)
  (nocell: ∀y∈fd.scope.names,y.2≠ .cell) (env: ∀env:Env,env.scope=fd.scope→gb env) (glob:fd.globals=bb) (bui:fd.builtins=cC)
  (hc:fd.code= .ref c) (hoc:B.h0.get? c=some oc) (htc:c ∉ B.tabs) (hdc:oc.data= .fields vs) (hq:vs[1]? =some (.str fd.qualname tq)) (bind: ∀v,bindArgs fd ⟨[v],[]⟩=pure [(nb,v)])
section
variable{B:bW}{A:bv}{W W':Wd}{hp hp':Hp}{s s' s1 s0:ag}{E:Value→ag→Prop}{env:Env}{X:dU}{tk:Tok}{x:List Nat}{m:Str→Option Value}
theorem BP(e:gb env)(hh:A.handled=none)(hglob: ∀{A:bv} {env:Env} {W:Wd} {hp:Hp} {s:ag} {Q:Value→ag→Prop} {E:Value→ag→Prop},env.globals=bb→env.builtins=cC→R B W hp s→Q (.type "enumerate") s→ar (model B.prog B.w) A (loadGlobal env Bz) Q E s)
  (eg:env.globals=bb) (eb:env.builtins=cC) (ns:s.heap.Ns env.locals m) (hm:m nb=some (.str ⟨x.toArray⟩ tk)) (Y:R B W hp s) (pL:gp B W env.locals):
  ∃SI EN fe,s.heap.get? SI=none∧s.heap.get? EN=none∧Seg (model B.prog B.w) A (gR env.locals SI EN fe) (gY env.locals SI EN fe (f9 0 false x)) (f9 0 false x).length s (.func X.body env) ((model B.prog B.w).den (.func X.body env)) [] s:=by
 have hL:env.locals<s.heap.objs.size:=ns.lt
 refine⟨s.heap.objs.size,s.heap.objs.size+1,lr x false,cc (av _),cc (cN _),seg_func ?_⟩
 unfold dU.body
 refine dW (m5 (wpAny_Assign_Name (wpAny_Constant_int (nq e e.pos ns fun s2 x2 z2 ns2=> ?_))))
 refine dW (m5 (wpAny_Assign_Name (wpAny_Constant_bool (nq e e.esc ns2 fun s3 x3 z3 ns3=> ?_))))
 have st:mT [env.locals] s s3:=((dP.toks s (s.toks+1)).stp.trans x2).trans x3
 have z3:s3.heap.objs.size=s.heap.objs.size:=z3.trans z2
 have Y3:=Y.stp (fun k m=>az.mp m▸pL) st
 refine dW (Gr (fun y=>rfl) (wpAny_Call_Name_kw (Name_function_global e.kind e.enu (hglob eg eb Y3 ?_) (by decide))))
 refine fC (eY (es:=[.Name nb (X.p 10)]) rfl) rfl (args_cons (lP e e.addr ns3 (k8 (by decide) (k8 (by decide) hm)) (by decide) (args_nil (ao ⟨.type _,?_⟩))) rfl)
 refine call_enumerate_str (prog:=B.prog) (w:=B.w) fun h4 hen hit M k4=>wpAny_pyIter_enum hen fun p=> ?_
 rw[z3]at hen hit ⊢
 have g4:dP s3 {s3 with heap:=h4}:=⟨k4,rfl,rfl⟩
 have Z:vC B.prog B.w A env s.heap.objs.size (s.heap.objs.size+1) (strIterType ⟨x.toArray⟩) x tk:=by
  refine⟨e,hh,cx hL,cx (Nat.lt_succ_of_lt hL),Nat.succ_ne_self _,fun A' hh=> ?_⟩
  unfold strIterType
  split
  ·exact Draws.strAscii hh _ _ tk
  ·exact Draws.strWide hh _ _ tk
 exact GS Z x 0 false none 0 s _ rfl (a9 _) ⟨.mk _ s.toks (ns3.keeps k4) (k8 (by decide) qw) qw nofun,hit,_,hen⟩ ((pA st).trans g4.stp) (.inr rfl) rfl ⟨[],rfl⟩
theorem En{s3:ag}{I:aB}(e:gb env)(g:iy B){fs:List aB}(hr:jg A 2 fs)(hglob: ∀{A:bv} {env:Env} {W:Wd} {hp:Hp} {s:ag} {Q:Value→ag→Prop} {E:Value→ag→Prop},env.globals=bb→env.builtins=cC→R B W hp s→Q (.type "enumerate") s→ar (model B.prog B.w) A (loadGlobal env Bz) Q E s)
  (eg:env.globals=bb) (eb:env.builtins=cC) (Y:R B W hp s) (k3: ∀b o,s.heap.get? b=some o→s3.heap.get? b=some o) (hg3:s3.gens=s.gens.push (.fresh (.func X.body env))) (ho3:s3.os=s.os) (ns:s3.heap.Ns env.locals m) (hm:m nb=some (.str ⟨x.toArray⟩ tk))
  (ig:s3.heap.IsGen I s.gens.size) (hL:s.heap.get? env.locals=none) (hI:s.heap.get? I=none) (hIL:I≠env.locals):xJ B A W hp s ((f9 0 false x).map uW) (fun M p=>p) ⟨fun a=>s.heap.get? a=none,fun g=>s.gens.size≤g⟩ I s3:=by
 have lv3: ∀k,s3.heap.get? k=none→s.heap.get? k=none:=fun k n=>by
  induction q:s.heap.get? k using aw with
  |none=>rfl
  |some o=>exact nomatch(k3 k o q).symm.trans n
 have gk: ∀(j:Nat) z,s.gens[j]? =some z→s3.gens[j]? =some z:=fun j z e=>by
  have hj:=(Array.getElem?_eq_some_iff.mp e).1
  rw[hg3,Array.getElem?_push_lt hj]
  exact(Array.getElem?_eq_getElem hj).symm.trans e
 have le:Le B W s W s3:=⟨.refl W,rfl,fun M h=> .inl h,fun M M h=> .inl h,fun a o e M M M=>k3 a o e,fun L M M=> .of (k3 L),lv3,gk⟩
 have Y3:R B W hp s3:=Y.moved (D:=[]) nofun (fun b o M=>k3 b o) (hg3▸Y.gens.push rfl) ho3
 have aI:=ig.imp fun o q=>q.elim fun M q=>q.elim fun M q=>q.1
 have aL: ∃o,s3.heap.get? env.locals=some o:=ns.elim fun o n=>n.elim fun es n=>n.elim fun ep n=>⟨o,n.1⟩
 have two: ∀{p:aB→Prop},p I→p env.locals→∀k∈[I,env.locals],p k:=fun a b k m=>(aX.mp m).elim (fun z=>z▸a) fun m=>az.mp m▸b
 refine .mk _ _ (yZ g hr.handled (by have:=hr.depth;omega) (av _) (W0:=W)) (fun M M h=>⟨trivial,h⟩) (.mk [env.locals] (.fresh (.func X.body env)) (two (Y.fresh hI) (Y.fresh hL)) (two hI hL) ig (fun k m=>az.mp m▸aL) lv3 (hg3▸Array.getElem?_push_size) fun W₂ hp₂ s₂ Y₂ p₂ k₂=> ?_) le Y3 ⟨fun M h=>h,fun M h=>h⟩ aI
 ·refine(BP (X:=X) (A:=A.in1) e hr.handled hglob eg eb (ns.elim fun o n=>n.elim fun es n=>n.elim fun ep n=>⟨o,es,ep,k₂ _ (.tail _ (.head _)) o n.1,n.2⟩) hm Y₂ (p₂ _ (.tail _ (.head _)))).elim fun SI zz=>zz.elim fun EN zz=>zz.elim fun fe zz=>zz.elim fun h1 zz=>zz.elim fun h2 h3=> ?_
  refine⟨env.locals,SI,EN,fe,fun q=> ?_,fun k q=> ?_,rfl,h3⟩
  ·exact aI.elim fun o e=>(aX.mp q).elim hIL fun q=>(aX.mp q).elim (fun z=>nomatch(z▸k₂ I (.head _) o e:s₂.heap.get? SI=some o).symm.trans h1) fun q=>nomatch(az.mp q▸k₂ I (.head _) o e:s₂.heap.get? EN=some o).symm.trans h2
  ·exact(aX.mp (y0 q)).elim (fun z=> .inl (z▸ .head _)) fun q=> .inr ((aX.mp q).elim (fun z=>z▸h1) fun q=>az.mp q▸h2)
theorem KY{a:aB}(F:Jl B a)(g:iy B)(hglob: ∀{A:bv} {env:Env} {W:Wd} {hp:Hp} {s:ag} {Q:Value→ag→Prop} {E:Value→ag→Prop},env.globals=bb→env.builtins=cC→R B W hp s→Q (.type "enumerate") s→ar (model B.prog B.w) A (loadGlobal env Bz) Q E s):Jj B a:=by
 intro A W hp s va x Q E fs hr Y rv hQ
 cases F with |mk o fd X c oc vs tq ho ht hd body gen nocell env glob bui hc hoc htc hdc hq bind=> ?_
 cases rv with |mk tk z=> ?_
 have e0:=env (newEnv fd.scope s.heap.objs.size fd.globals fd.closure (fd.qualname++ae ".<locals>.") (some a) fd.code none fd.builtins) rfl
 refine wpAny_call (codeAny_call_generator (by have:=hr.depth;omega) (Y.old ho ht) hd e0.co gen body ⟨c,oc,vs,tq,hc,Y.old hoc htc,hdc,hq⟩ ?_)
 rw[bind]
 refine ao (wpAny_newFunctionEnv nocell (fun y m=>az.mp m▸e0.addr) (fun h1 hm hs1=> ?_) e0.kind)
 have hLn:s.heap.get? s.heap.objs.size=none:=cc (av _)
 have g1: ∀b o,s.heap.get? b=some o→h1.get? b=some o:=fun b o e=>(hs1.2 b (ez e hLn)).trans (aD _ e)
 have z1:h1.objs.size=s.heap.objs.size+1:=hs1.1.trans (dn ..)
 refine⟨j3 (Y.grow (s':={s with heap:=h1,toks:=_}) ⟨g1,rfl,rfl⟩) g,?_⟩
 exact hQ _ _ _ (En (X:=X) e0 g hr hglob glob bui Y (fun b o e=>aD _ (g1 b o e)) rfl rfl (hm.push _) rfl ⟨_,_,_,aF _ rfl,rfl,rfl,rfl⟩ hLn (cc (z1▸cN _)) (z1▸Nat.succ_ne_self _))
end
structure fg(T:Frag)(B:bW):Prop where
 X:T.In B.h0
 G:iy B
 off: ∀P∈B.tabs,T.lookup P=none
 bui: ∃mb,B.h0.Ns cC mb∧cC ∉ B.tabs∧∀x:Str,x≠"__name__"→mb x=bootBuiltins x
inductive GV where
 |ref (a:aB)
 |int (i:Int) (t:Tok)
 |bui (id:String)
 |typ (id:String)
noncomputable def GV.v(g:GV):V:=GV.casesOn g (fun a=> .val (.ref a)) (fun i M=> .int i) (fun id=> .val (.builtin id)) fun id=> .val (.type id)
noncomputable def GV.at'(g:GV):Option Value:=GV.casesOn g (fun a=>some (.ref a)) (fun i t=>some (.int i t)) (fun M=>none) fun M=>none
noncomputable def GV.boot(g:GV)(o:Option Value):Option Value:=GV.casesOn g (fun M=>none) (fun M M=>none) (fun M=>o) fun M=>o
noncomputable def GV.due(g:GV):Option Value:=GV.casesOn g (fun M=>none) (fun M M=>none) (fun id=>some (.builtin id)) fun id=>some (.type id)
noncomputable def MT(globs:List (Str×GV))(fns:List (aB×Fn))(codes:List (Nat×eB))(inits:List (aB×aB))(meths:List ((aB×Str)×aB))(dats:List (aB×Str))(frees:List Str)(tags:List (Pos×Nat))(owns:List Pos)(typs:List (Pos×Ty))(gens:List aB)
  (pats:List (aB×(List Nat→Bool×Bool))):fS where
 glob x:=(globs.lookup x).map GV.v
 fn a:=fns.lookup a
 code n:=codes.lookup n
 init a:=inits.lookup a
 meth C x:=meths.lookup (C,x)
 dat C x:=dats.contains (C,x)
 free x:=frees.contains x
 tag p:=tags.lookup p
 own p:=owns.contains p
 typ p:=(typs.lookup p).getD .int
 gen a:=gens.contains a
 pat a:=pats.lookup a
theorem lF{α β:Type}{f g:α→β}{l:List α}(h:l.map f=l.map g){p:α}(m:p∈l):f p=g p:=List.map_inj_left.mp h p m
noncomputable def El(T:Frag)(p:Str×GV):Option (Option Value)×Option Value×Bool:=(nsIn T bb p.1,p.2.boot (bootBuiltins p.1),p.1==ae "__name__")
noncomputable def Ej(p:Str×GV):Option (Option Value)×Option Value×Bool:=(some p.2.at',p.2.due,false)
noncomputable def Je(T:Frag)(N:aB):Bool×Option (Option Value)×Option (Option Value)×Option (Option Value):=(nsOkIn T N,nsIn T N "__getattribute__",nsIn T N "__getattr__",nsIn T N "__setattr__")
noncomputable def IN(T:Frag)(N:aB)(p:Str×aB):Option (Option Value)×Option Value×Option (Option Value):=(nsIn T N p.1,(T.lookup p.2).map (·.cls),fastLookup "object" p.1)
noncomputable def IM(p:Str×aB):Option (Option Value)×Option Value×Option (Option Value):=(some (some (.ref p.2)),some (.type "function"),some none)
noncomputable def NX(T:Frag)(N:aB)(x:Str):Option (Option Value)×Option (Option Value):=(nsIn T N x,fastLookup "object" x)
section
variable{T:Frag}{B:bW}{W W':Wd}{hp:Hp}{s:ag}{N C:aB}
theorem fg.out(Z:fg T B){a:aB}{o:Obj}(h:T.lookup a=some o):a ∉ B.tabs:=fun m=>nomatch(Z.off a m).symm.trans h
theorem fg.at(Z:fg T B)(Y:R B W hp s):T.In s.heap:=fun a o h=>Y.old (Z.X a o h) (Z.out h)
theorem Au(Z:fg T B)(hn:nsOkIn T bb=true){x:Str}{g:GV}(h:El T (x,g)=Ej (x,g)){A:bv}{env:Env}{Q:Value→ag→Prop}{E:Value→ag→Prop}(e1:env.globals=bb)(e2:env.builtins=cC)(Y:R B W hp s)(hQ: ∀va,a7 W va g.v→Q va s):
  ar (model B.prog B.w) A (loadGlobal env x) Q E s:=by
 have gm:s.heap.Ns bb (s.heap.nsMap bb):= .of_isNs (isNs_of_in (Z.at Y) hn)
 have g':s.heap.Ns env.globals (s.heap.nsMap bb):=e1▸gm
 have h1:nsIn T bb x=some g.at':=congrArg (·.1) h
 have bt: ∀{v:Value},g.at'=none→g.boot (bootBuiltins x)=bootBuiltins x→g.due=some v→Q v s→ar (model B.prog B.w) A (loadGlobal env x) Q E s:=fun{v} e3 e4 e5 q=>Z.bui.elim fun mb b=>loadGlobal_builtin g' (mg_none_of (Z.at Y) gm (h1.trans (congrArg some e3))) (e2▸Y.oldNs b.1 b.2.1) ((b.2.2 x (beq_eq_false_iff_ne.mp (congrArg (·.2.2) h))).trans (e4.symm.trans ((congrArg (·.2.1) h).trans e5))) q
 induction g using GV.casesOn with
 |int i t=>exact loadGlobal_global g' (mg_of (Z.at Y) gm h1) (hQ _ (.mk t))
 |ref a=>exact loadGlobal_global g' (mg_of (Z.at Y) gm h1) (hQ _ rfl)
 |bui id=>exact bt rfl rfl rfl (hQ _ rfl)
 |typ id=>exact bt rfl rfl rfl (hQ _ rfl)
theorem tg{x:Str}(h:fastLookup "object" x=some none):typeLookup (.type "object") x=pure none:=by
 rw[cq,bB,h]
theorem fg.ns(Z:fg T B)(h:nsOkIn T N=true):B.h0.Ns N (B.h0.nsMap N)∧N ∉ B.tabs:=by
 refine⟨.of_isNs (isNs_of_in Z.X h),?_⟩
 unfold nsOkIn at h
 induction q:T.lookup N using aw with
 |none=>rw[q]at h;injection h
 |some o=>exact Z.out q
theorem yC{h:dq}{n:Str}{v:Value}(X:T.In h)(ok:nsOkIn T N=true)(e:nsIn T N n=some (some v)):h.nsMap N n=some v:=by
 obtain⟨⟨oc,od,dat,sl⟩,es,ep,ho,hd,_,hf⟩:=dq.Ns.of_isNs (isNs_of_in X ok)
 obtain rfl:=(show dat=_ from hd)
 rw[←hf]
 unfold nsIn at e
 induction q:T.lookup N using aw with
 |none=>rw[q]at e;injection e
 |some o=>
  cases (X _ _ q).symm.trans ho
  rw[q]at e
  dsimp only at e
  unfold nsFind findBy
  rw[←Array.find?_toList]
  induction f:es.toList.find? (·.key.isStr n)using aw with
  |none=>rw[f]at e;dsimp only at e;cases c:es.toList.any (·.refKey)<;>rw[c]at e<;>cases e
  |some w=>rw[f]at e;exact congrArg (fun o=>o.bind id) e
theorem fg.cls(Z:fg T B)(h:Je T N=(true,some none,some none,some none)){nm q:Str}{bs:List Value}{sn:List Str}{sub:List Value}{ab:Bool}{col:Option Bool}{dd:Option aB}{k0 k1 k2 k3 k5:Option Value}{newId:String}
  (ho:T.lookup C=some (excClassObj nm q C N bs [.type "object"] true sn sub ab col dd k0 k1 k2 k3 k5 newId)):ox B C (B.h0.nsMap N):=
 have ok:nsOkIn T N=true:=congrArg (·.1) h
 .mk nm q N bs sn sub ab col dd k0 k1 k2 k3 k5 newId (Z.X _ _ ho) (Z.ns ok).1 (Z.out ho) (Z.ns ok).2 (nsMap_none_of_in Z.X ok (congrArg (·.2.1) h)) (nsMap_none_of_in Z.X ok (congrArg (·.2.2.1) h)) (nsMap_none_of_in Z.X ok (congrArg (·.2.2.2) h))
theorem fg.meth(Z:fg T B)(c:ox B C (B.h0.nsMap N))(ok:nsOkIn T N=true){p:Str×aB}(h:IN T N p=IM p):zG B C p.1 p.2:=
 (bG.mp (congrArg (·.2.1) h)).elim fun o q=> .mk _ o none c (yC Z.X ok (congrArg (·.1) h)) (Z.X _ _ q.1) q.2 (Z.out q.1) (tg (congrArg (·.2.2) h))
theorem fg.dat(Z:fg T B)(c:ox B C (B.h0.nsMap N))(ok:nsOkIn T N=true){x:Str}(h:NX T N x=(some none,some none)):FH B C x:=
 .mk _ c (nsMap_none_of_in Z.X ok (congrArg (·.1) h)) (tg (congrArg (·.2) h))
theorem fg.init(Z:fg T B){i:aB}{o:Obj}{c:ClassData}(hm:makesIn T C=true)(hi:findIn T (.ref C) "__init__"=some (some (.ref i)))(hf:typeIn T (.ref i)=some (.type "function"))(ho:T.lookup C=some o)(hd:o.data= .cls c)(hc:o.cls= .type "type"):vD B C i:=
 .mk T o c (fun M M M Y=>Z.at Y) hm hi hf (Z.X _ _ ho) (Z.out ho) hd hc
end
noncomputable def MO(T:Frag)(a:aB):Obj:=(T.lookup a).getD ⟨.none,none,.fields #[],#[]⟩
noncomputable def fQ(T:Frag)(a:aB):FuncData:=match(MO T a).data with
 | .func fd=>fd
 |M=>⟨⟨#[]⟩,⟨#[]⟩,⟨[],[],none,[],[],none,[]⟩,.stmts [],default,0,[],.none,.none,.none,.none,none,.none,.none,0⟩
noncomputable def u7(T:Frag)(v:Value):Option (Option (Option Value)):=(yo v).bind fun c=>(T.lookup c).map fun o=>match o.data with
 | .fields vs=>some ((vs[1]? :Option Value).getD .none)
 |M=>none
noncomputable def isStr(o:Option (Option (Option Value))):Bool:=match o with
 |some (some (some v))=>(match v with
  | .str .. =>true
  |M=>false)
 |M=>false
noncomputable def P2(T:Frag)(tabs:List (aB×aB))(p:aB×Fn):Option Data×FuncBody×Scope×aB×aB×List (Str×aB)×Bool×Bool×Bool:=
 ((T.lookup p.1).map (·.data),(fQ T p.1).body,(fQ T p.1).scope,(fQ T p.1).globals,(fQ T p.1).builtins,(fQ T p.1).closure,isStr (u7 T (fQ T p.1).code),wC p.2.code.scope,cond p.2.mks ((yo (fQ T p.1).code).any fun c=>tabs.any fun q=>aS q.1 c) true)
noncomputable def P1(T:Frag)(p:aB×Fn):Option Data×FuncBody×Scope×aB×aB×List (Str×aB)×Bool×Bool×Bool:=
 (some (.func (fQ T p.1)),p.2.code.body,p.2.code.scope,bb,cC,[],true,true,true)
noncomputable def sG{α:Type}:Nat→(List α→Prop)→Prop
 |0,P=>P []
 |n+1,P=>∀a,sG n fun l=>P (a::l)
theorem vy{α:Type}{n:Nat}: ∀{P:List α→Prop},sG n P→∀l,l.length=n→P l:=by
 induction n with
 |zero=>intro P h l e;exact List.length_eq_zero_iff.mp e▸h
 |succ n ih=>
  intro P h l e
  induction l using aO with
  |nil=>injection e
  |cons a l=>exact ih (h a) l (Nat.succ.inj e)
noncomputable def IE(all:List Value)(p:Str×(Nat ⊕ V)):Str×Value:=(p.1,Sum.casesOn p.2 (fun j=>all[j]?.getD .none) fun M=> .none)
noncomputable def IG(v:V):Bool:=match v with
 | .none=>true
 |M=>false
theorem DC{v:V}(h:IG v=true):v= .none:=by
 induction v using V.casesOn with
 |none=>rfl
 |_=>exact bh h
noncomputable def Dr(n:Nat)(p:Str×(Nat ⊕ V)):Bool:=Sum.casesOn p.2 (fun j=>dZ j n) IG
noncomputable abbrev Cn:=Nat×List Str×List (Str×(Nat ⊕ V))
noncomputable def Ew(p:aB×Cn):Bool×Bool×Bool:=(bz p.2.1 6,bz p.2.2.1.length 1,p.2.2.2.all (Dr (p.2.1+p.2.2.1.length)))
noncomputable def AA(T:Frag)(l k:List Value)(S:Setting)(p:aB×Cn):Option (List (Str×Value)):=peek T S (bindArgs (fQ T p.1) ⟨l.take p.2.1,p.2.2.1.zip (k.take p.2.2.1.length)⟩)
noncomputable def Az(l k:List Value)(p:aB×Cn):Option (List (Str×Value)):=some (p.2.2.2.map (IE (l.take p.2.1++k.take p.2.2.1.length)))
noncomputable def iT(fns:List (aB×Fn)):List (aB×Cn):=fns.flatMap fun p=>p.2.binds.map fun b=>(p.1,b)
section
variable{T:Frag}{B:bW}{W W':Wd}{hp:Hp}{s:ag}
theorem Jn{α β:Type}{l:List (α×β)}:l=(l.map (·.1)).zip (l.map (·.2)):=by
 induction l with
 |nil=>rfl
 |cons a l ih=>exact congrArg (a:: ·) ih
theorem Dq{all:List Value}{l:List (Str×(Nat ⊕ V))}(h: ∀p∈l,Dr all.length p=true):bI (fun p q=>p.1=q.1∧FJ all p.2 q.2) (l.map (IE all)) l:=by
 induction l with
 |nil=>exact .nil
 |cons p l ih=>
  refine .cons ⟨rfl,?_⟩ (ih fun p m=>h p (.tail _ m))
  obtain⟨x,y⟩:=p
  have h0:=h _ (.head _)
  induction y using Sum.casesOn with
  |inl j=>
   show all[j]? =some (all[j]?.getD .none)
   rw[aR (aq h0:j<all.length)]
   rfl
  |inr v=>obtain rfl:=DC h0;exact fun W=>rfl
theorem yy{bw:List Value}{n:Nat}(k:Nat)(h:bw.length=n)(hn:n≤k):((bw++cH (k-n) Value.none).length=k)∧(bw++cH (k-n) Value.none).take n=bw:=
 ⟨by rw[ak,List.length_replicate,h];grind,h▸List.take_left⟩
theorem Ho(Z:fg T B){p:aB×Cn}(h:sG 6 fun l=>sG 1 fun k=>∀S,AA T l k S p=Az l k p)(hb:Ew p=(true,true,true)):pU B (fQ T p.1) p.2:=by
 intro s bw kwv hk hv hn
 have h1:p.2.1≤6:=aq (congrArg (·.1) hb)
 have h2:p.2.2.1.length≤1:=aq (congrArg (·.2.1) hb)
 have h3:p.2.2.2.all (Dr (p.2.1+p.2.2.1.length))=true:=congrArg (·.2.2) hb
 have hl:(kwv.map (·.2)).length=p.2.2.1.length:=by rw[←hn,aE,aE]
 obtain⟨a1,a2⟩:=yy 6 hv h1
 refine(yy 1 hl h2).elim fun b1 b2=> ?_
 have e:=vy (vy h _ a1) _ b1
 unfold AA Az at e
 rw[a2,b2]at e
 exact⟨_,kp_binds (K:=T) (args:=⟨bw,kwv⟩) (fun a o h=>hk a o (Z.X a o h) (Z.out h)) (fun S=>(congrArg (fun l=>peek T S (bindArgs (fQ T p.1) ⟨bw,l⟩)) (hn▸Jn)).trans (e S)),Dq (by rw[ak,hv,hl];exact ay.mp h3)⟩
theorem D0{o:Option (Option (Option Value))}(h:isStr o=true): ∃q t,o=some (some (some (.str q t))):=by
 induction o using aw with
 |none=>injection h
 |some o=>induction o using aw with
  |none=>injection h
  |some o=>induction o using aw with
   |none=>injection h
   |some v=>induction v using Value.casesOn with
    |str=>exact⟨_,_,rfl⟩
    |_=>exact bh h
theorem AM{v:Value}{q:Str}{t:Tok}(h:u7 T v=some (some (some (.str q t)))): ∃c oc vs,v= .ref c∧T.lookup c=some oc∧oc.data= .fields vs∧(vs[1]? :Option Value)=some (.str q t):=by
 refine jD h fun c e1 e=> ?_
 refine kP e fun oc e2 e=> ?_
 obtain⟨cl,di,dat,sl⟩:=oc
 induction dat using PySem.Data.casesOn with
 |fields vs=>
  refine⟨c,_,vs,pC e1,e2,rfl,?_⟩
  have e:(vs[1]? :Option Value).getD .none= .str q t:=af (af e)
  induction w:(vs[1]? :Option Value)using aw with
  |none=>rw[w]at e;injection e
  |some v=>rw[w]at e;exact congrArg some e
 |_=>injection e
theorem NB(Z:fg T B){p:aB×Fn}(h:P2 T B.ct p=P1 T p)(hb: ∀b∈p.2.binds,pU B (fQ T p.1) b):Oq B p.1 p.2:=by
 refine kP (congrArg (·.1) h) fun o ho hd=> ?_
 have hc:isStr (u7 T (fQ T p.1).code)=true:=congrArg (·.2.2.2.2.2.2.1) h
 have hm:cond p.2.mks ((yo (fQ T p.1).code).any fun c=>B.ct.any fun q=>aS q.1 c) true=true:=congrArg (·.2.2.2.2.2.2.2.2) h
 refine .mk o (fQ T p.1) (Z.X _ _ ho) (Z.out ho) hd (congrArg (·.2.1) h) (congrArg (·.2.2.1) h) (congrArg (·.2.2.2.1) h) (congrArg (·.2.2.2.2.1) h) (congrArg (·.2.2.2.2.2.1) h) (congrArg (·.2.2.2.2.2.2.2.1) h) (fun F hF=> ?_) (fun k=> ?_) hb
 ·obtain⟨q,t,e⟩:=D0 hc
  refine(AM e).elim fun c zz=>zz.elim fun oc zz=>zz.elim fun vs zz=>zz.elim fun e1 zz=>zz.elim fun e2 zz=>zz.elim fun e3 e4=> ?_
  exact e1▸ .mk c oc vs t q (hF _ _ (Z.X _ _ e2) (Z.out e2)) e3 e4
 ·rw[k]at hm
  induction w:yo (fQ T p.1).code using aw with
  |none=>rw[w]at hm;injection hm
  |some c=>
   rw[w]at hm
   refine(List.any_eq_true.mp (show B.ct.any (fun q=>aS q.1 c)=true from hm)).elim fun q zz=>zz.elim fun hq e=> ?_
   exact⟨c,q.2,pC w,aV e▸hq⟩
theorem Eu(Z:fg T B){fns:List (aB×Fn)}(h:sG 6 fun l=>sG 1 fun k=>∀S,(iT fns).map (AA T l k S)=(iT fns).map (Az l k))(hb:(iT fns).map Ew=(iT fns).map fun M=>(true,true,true)){p:aB×Fn}(m:p∈fns){b:Cn}(mb:b∈p.2.binds):pU B (fQ T p.1) b:=by
 have mm:(p.1,b)∈iT fns:=ce.mpr ⟨p,m,aP.mpr ⟨b,mb,rfl⟩⟩
 exact Ho (p:=(p.1,b)) Z (fun a1 a2 a3 a4 a5 a6 k S=>lF (h a1 a2 a3 a4 a5 a6 k S) mm) (lF hb mm)
noncomputable def AQ(fd:FuncData)(l:List Value)(p:Nat×eB):Sem (List (Str×Value)):=bindArgs ⟨fd.name,fd.qualname,p.2.params,fd.body,fd.scope,fd.globals,fd.closure,.none,.none,fd.doc,fd.pyModule,fd.annotations,fd.code,fd.closureTuple,fd.builtins⟩ ⟨l.take p.2.params.args.length,[]⟩
noncomputable def AP(l:List Value)(p:Nat×eB):Sem (List (Str×Value)):=pure ((p.2.params.args.map (·.arg)).zip (l.take p.2.params.args.length))
noncomputable def I9(p:Nat×eB):Bool×Bool:=(wC p.2.scope,bz p.2.params.args.length 3)
theorem HR{codes:List (Nat×eB)}(h: ∀fd,sG 3 fun l=>codes.map (AQ fd l)=codes.map (AP l))(hb:codes.map I9=codes.map fun M=>(true,true)){t:Nat}{fc:eB}(e:codes.lookup t=some fc):FI fc:=by
 have m:=fG e
 have b:=lF hb m
 refine⟨congrArg (·.1) b,fun fd s bw e1 e2 e3 hv=> ?_⟩
 refine(yy 3 hv (aq (congrArg (·.2) b))).elim fun a1 a2=> ?_
 have q:=lF (vy (h fd) _ a1) m
 unfold AQ AP at q
 rw[a2]at q
 obtain⟨n,qn,ps,bd,sc,gl,cl,df,kd,dc,pm,an,co,ct,bu⟩:=fd
 subst e1;subst e2;subst e3
 exact⟨_,.of_eq q,List.map_fst_zip (by rw[aE,hv];exact av _),List.map_snd_zip (by rw[aE,hv];exact av _)⟩
noncomputable def NP(names:List (Str×NameKind)):List (Option NameKind):=[names.lookup nb,names.lookup wI,names.lookup wJ,names.lookup Cs,names.lookup Bz]
noncomputable def NO(T:Frag)(a:aB):Option Data×Bool×Bool×ScopeKind×Bool×List (Option NameKind)×aB×aB×Option (Option (Option Value)):=
 ((T.lookup a).map (·.data),(fQ T a).scope.isGenerator,(fQ T a).scope.isCoroutine,(fQ T a).scope.kind,(fQ T a).scope.names.all fun y=>y.2 != .cell,NP (fQ T a).scope.names,(fQ T a).globals,(fQ T a).builtins,u7 T (fQ T a).code)
noncomputable def I5(T:Frag)(a:aB)(t:Tok):Option Data×Bool×Bool×ScopeKind×Bool×List (Option NameKind)×aB×aB×Option (Option (Option Value)):=
 (some (.func (fQ T a)),true,false,.function,true,[some .local,some .local,some .local,some .local,some .globalImplicit],bb,cC,some (some (some (.str (fQ T a).qualname t))))
theorem Lb(Z:fg T B){a:aB}{t:Tok}{X:dU}(h:NO T a=I5 T a t)(body:(fQ T a).body= .stmts X.body)(bind: ∀v,bindArgs (fQ T a) ⟨[v],[]⟩=pure [(nb,v)]):Jl B a:=by
 refine kP (congrArg (·.1) h) fun o ho hd=> ?_
 refine(AM (congrArg (·.2.2.2.2.2.2.2.2) h)).elim fun c zz=>zz.elim fun oc zz=>zz.elim fun vs zz=>zz.elim fun e1 zz=>zz.elim fun e2 zz=>zz.elim fun e3 e4=> ?_
 have n:NP (fQ T a).scope.names=_:=congrArg (·.2.2.2.2.2.1) h
 have nm: ∀{env:Env} {x:Str} {k:NameKind},env.scope=(fQ T a).scope→(fQ T a).scope.names.lookup x=some k→env.kindOf x=some k:=fun e q=>(congrArg (fun s:Scope=>s.names.lookup _) e).trans q
 exact .mk o (fQ T a) X c oc vs t (Z.X _ _ ho) (Z.out ho) hd body (congrArg (·.2.1) h) (fun y m=>bne_iff_ne.mp (ay.mp (congrArg (·.2.2.2.2.1) h:_=true) y m))
  (fun env e=>⟨e▸congrArg (·.2.2.2.1) h,e▸congrArg (·.2.2.1) h,nm e (congrArg (fun l:List _=>l.getD 0 none) n),nm e (congrArg (fun l:List _=>l.getD 1 none) n),nm e (congrArg (fun l:List _=>l.getD 2 none) n),nm e (congrArg (fun l:List _=>l.getD 3 none) n),nm e (congrArg (fun l:List _=>l.getD 4 none) n)⟩)
  (congrArg (·.2.2.2.2.2.2.1) h) (congrArg (·.2.2.2.2.2.2.2.1) h) e1 (Z.X _ _ e2) (Z.out e2) e3 e4 bind
end
theorem fg.start{p p':Program}{w:World}{loose:List Str}{mean:ExcName→Option Value}{mg mb:Str→Option Value}{tabs:List (aB×aB)}{s:ag}{code:Nat→Option eB}{T:Frag}{bm:aB}(X:T.In s.heap)(Y:Top p' loose mean mg mb s.heap)
  (hinj':(tabs.all fun x=>tabs.all fun y=>x.2 !=y.2||x.1==y.1)=true) (off':(tabs.all fun q=>(T.lookup q.2).isNone)=true) (hst:nsOkIn T cStatics=true) (hrl:nsIn T cStatics "sys.recursionlimit"=some none)
  (hgl:nsOkIn T bb=true) (hbm:nsIn T bb "__builtins__"=some (some (.ref bm))) (hne':(bm !=bb&&tabs.all fun q=>bm !=q.2)=true) (hbn:cC ∉ tabs.map (·.2)):fg T ⟨p,w,s.heap,tabs,s.os,code⟩:=by
 have offs: ∀P∈tabs.map (·.2),T.lookup P=none:=fun P hP=>by
  obtain⟨q,hq,rfl⟩:=aP.mp hP
  exact Option.isNone_iff_eq_none.mp (ay.mp off' q hq)
 have hinj: ∀c c' P,(c,P)∈tabs→(c',P)∈tabs→c=c':=fun c c' P h h'=>by simpa using ay.mp (ay.mp hinj' _ h) _ h'
 rw[cL]at hne'
 have hne1:bm≠bb:=bne_iff_ne.mp hne'.1
 have hne2:bm ∉ tabs.map (·.2):=fun m=>by
  obtain⟨q,hq,e⟩:=aP.mp m
  exact bne_iff_ne.mp (ay.mp hne'.2 q hq) e.symm
 have hout: ∀{N:aB},nsOkIn T N=true→N ∉ tabs.map (·.2):=fun{N} ok m=>by
  unfold nsOkIn at ok
  rw[offs N m]at ok
  injection ok
 have g:s.heap.Ns bb (s.heap.nsMap bb):= .of_isNs (isNs_of_in X hgl)
 have e2:s.heap.nsMap bb "__builtins__"=some (.ref bm):=mg_of X g hbm
 have em:mg=s.heap.nsMap bb:=Y.g.eq_nsMap
 obtain⟨bm',ob,r1,r2,r3,r4,r5,r6⟩:=Y.bmain
 rw[em,e2]at r1
 cases r1
 exact⟨X,⟨hinj,⟨_,.of_isNs (isNs_of_in X hst),nsMap_none_of_in X hst hrl,hout hst⟩,⟨_,g,hout hgl,bm,ob,e2,hne2,r3,fun P hP=>⟨bm,ob,e2,r2,hne1,fun q=>hne2 (q▸hP),r3,r4,r5,r6⟩⟩⟩,offs,mb,Y.b,hbn,Y.builtins⟩
noncomputable def clean(x:List Nat):Bool:=x.all fun c=>bz 32 c&&dZ c 127
theorem vz{m:Sre.M}{f:Nat→Bool}(h: ∀i,i<m.lim→∀seen,∃seen',Sre.inSet m.code (m.text.getD i 0) m.code.size 5 true seen= .ok (f (m.text.getD i 0),seen'))(fuel:Nat): ∀(s:Nat) (seen:Sre.Seen),m.lim≤s+fuel→
  ((∀i,s≤i→i<m.lim→f (m.text.getD i 0)=false)→∃seen',Sre.M.admitted m fuel s seen= .ok (none,seen'))∧((∃i,s≤i∧i<m.lim∧f (m.text.getD i 0)=true)→∃i seen',i<m.lim∧f (m.text.getD i 0)=true∧Sre.M.admitted m fuel s seen= .ok (some i,seen')):=by
 induction fuel with
 |zero=>exact fun s seen hl=>⟨fun M=>⟨seen,rfl⟩,fun k=>k.elim fun i z=>absurd (aj z.1 z.2.1) (bY.mpr hl)⟩
 |succ fuel ih=>
  intro s seen hl
  have e0:Sre.M.admitted m (fuel+1) s seen=(if s≥m.lim then Except.ok (none,seen)else match Sre.inSet m.code (m.text.getD s 0) m.code.size 5 true seen with | .ok (true,seen)=> .ok (some s,seen)| .ok (false,seen)=>Sre.M.admitted m fuel (s+1) seen| .error why=> .error why):=rfl
  rw[e0]
  by_cases hs:s≥m.lim
  ·rw[if_pos hs];exact⟨fun M=>⟨seen,rfl⟩,fun k=>k.elim fun i z=>absurd (aj z.1 z.2.1) (bY.mpr hs)⟩
  ·rw[if_neg hs]
   refine(h s (Nat.lt_of_not_le hs) seen).elim fun seen' e=> ?_
   rw[e]
   cases q:f (m.text.getD s 0)with
   |true=>exact⟨fun k=>(nomatch(k s (av s) (Nat.lt_of_not_le hs)).symm.trans q),fun M=>⟨s,seen',Nat.lt_of_not_le hs,q,rfl⟩⟩
   |false=>
    have z:=ih (s+1) seen' (ad hl (aC (Nat.succ_add s fuel).symm))
    refine⟨fun k=>z.1 fun i hi=>k i (cS hi),fun k=>z.2 (k.elim fun i w=>⟨i,Nat.lt_of_le_of_ne w.1 (fun e=> ?_),w.2⟩)⟩
    subst e
    exact nomatch q.symm.trans w.2.2
noncomputable def tI:Array Nat:= #[14,14,4,1,1,9,4294966783,0,0,2147483648,0,0,0,0,0,13,11,9,4294966783,0,0,2147483648,0,0,0,0,0,1]
noncomputable def xt:Array Nat:= #[14,14,4,1,1,9,0,4227896069,939524097,0,0,0,0,0,0,13,11,9,0,4227896069,939524097,0,0,0,0,0,0,1]
noncomputable abbrev fL(b:Bool):Array Nat:=match b with
 |true=>xt
 |false=>tI
noncomputable abbrev IU(text:Array Nat)(lim start lastStart pos:Nat)(marks:Array (Option Nat))(loops:Array Sre.Loop)(inner:Option Nat)(seen:Sre.Seen)(pc handed:Nat)(a:Option Bool)(fr:Sre.Frame)(b:Bool):Sre.M:=
 ⟨fL b,text,lim,start,lastStart,false,false,pc,pos,handed,true,marks,-1,-1,loops,inner,[fr],1,a,seen,none⟩
theorem Hu{text:Array Nat}{lim start lastStart pos:Nat}{marks:Array (Option Nat)}{loops:Array Sre.Loop}{inner:Option Nat}{seen seen':Sre.Seen}{handed:Nat}{fr:Sre.Frame}{b:Bool}(hp:pos<lim)
  (e:Sre.accepts (fL b) 15 (text.getD pos 0) (seen.add 13)= .ok (true,seen')):(IU text lim start lastStart pos marks loops inner seen 15 handed none fr b).exec=IU text lim start lastStart (pos+1) marks loops inner seen' 27 handed none fr b:=by
 let f:Except String (Bool×Sre.Seen)→Sre.M:=fun r=>match r with
  | .error why=>(IU text lim start lastStart pos marks loops inner (seen.add 13) 15 handed none fr b).stick why
  | .ok p=>cond p.1 (IU text lim start lastStart (pos+1) marks loops inner p.2 27 handed none fr b) ((IU text lim start lastStart pos marks loops inner p.2 15 handed none fr b).say false)
 have e0:(IU text lim start lastStart pos marks loops inner seen 15 handed none fr b).exec=if pos≥lim then(IU text lim start lastStart pos marks loops inner (seen.add 13) 15 handed none fr b).say false else f (Sre.accepts (fL b) 15 (text.getD pos 0) (seen.add 13)):=by
  cases b
  ·generalize h:Sre.accepts (fL false) 15 (text.getD pos 0) (seen.add 13)=q
   show(if pos≥lim then _ else(match Sre.accepts (fL false) 15 (text.getD pos 0) (seen.add 13)with
     | .error why=>_| .ok (false,seen)=>_| .ok (true,seen)=>_))=_
   rw[h]
   rcases q with why|⟨_|_,z⟩<;>rfl
  ·generalize h:Sre.accepts (fL true) 15 (text.getD pos 0) (seen.add 13)=q
   show(if pos≥lim then _ else(match Sre.accepts (fL true) 15 (text.getD pos 0) (seen.add 13)with
     | .error why=>_| .ok (false,seen)=>_| .ok (true,seen)=>_))=_
   rw[h]
   rcases q with why|⟨_|_,z⟩<;>rfl
 rw[e0,if_neg (Nat.not_le.mpr hp),e]
 rfl
theorem BR{m:Sre.M}{s:Nat}{b:Bool}(hc:m.code=fL b)(hq:m.pc=15)(hf:m.frames=[])(ho:m.outcome=none)(ha:m.answer=none)(hw:m.weight=0)(hm:m.mustAdvance=false)(ht:m.wholeText=false)(hs:s<m.lim)
  (hacc: ∀seen,∃seen',Sre.accepts (fL b) 15 (m.text.getD s 0) seen= .ok (true,seen')): ∃m',(m.attemptAt s true).runFor 4=m'∧m'.outcome=some .matched:=by
 obtain⟨code,text,lim,start,lastStart,wholeText,mustAdvance,pc,pos,handed,outermost,marks,lastmark,lastindex,loops,inner,frames,weight,answer,seen,outcome⟩:=m
 dsimp only at *
 subst hc hq hf ho ha hw hm ht
 refine(hacc (seen.add 13)).elim fun seen' e=>⟨_,rfl,?_⟩
 show(Sre.M.runFor 3 (Sre.M.step _)).outcome=_
 rw[show Sre.M.step (Sre.M.attemptAt _ s true)=IU text lim s lastStart (s+1) marks loops inner seen' 27 s none {wait:= .nextStart,pc:=15,pos:=s,outermost:=true} b from by
  cases b<;>exact Hu hs e]
 cases b<;>rfl
theorem z4{code text:Array Nat}{f:Nat→Bool}(h1:Sre.header code=(1,11)∨Sre.header code=(1,15))(h2:(match Sre.ops[code.getD 0 0]? with |some .INFO=>true|_=>false)=true)(h3:code.getD 2 0=4)
  (h: ∀i,i<text.size→∀seen,∃seen',Sre.inSet code (text.getD i 0) code.size 5 true seen= .ok (f (text.getD i 0),seen')):
  ((∀i,i<text.size→f (text.getD i 0)=false)→ou code text)∧∀b,code=fL b→(∀i,i<text.size→f (text.getD i 0)=true→∀seen,∃seen',Sre.accepts (fL b) 15 (text.getD i 0) seen= .ok (true,seen'))→(∃i,i<text.size∧f (text.getD i 0)=true)→A6 code text:=by
 have hh:(Sre.header code).1=1:=by rcases h1 with e|e<;>rw[e]
 by_cases he:text.size=0
 ·refine⟨fun M=> ?_,fun b hb k z=>z.elim fun i z=>absurd z.1 (he▸Nat.not_lt_zero i)⟩
  unfold ou Sre.forSearch
  rw[hh,he]
  exact⟨rfl,rfl,rfl⟩
 ·have hlt: ¬(0>text.size∨text.size-0<1):=fun z=>z.elim (Nat.not_lt_zero _) fun z=>he (Nat.lt_one_iff.mp z)
  have key: ∃m0:Sre.M,Sre.forSearch code text 0 0 text.size false=m0.attemptFrom 0 true∧m0.code=code∧m0.text=text∧m0.lim=text.size∧m0.frames=[]∧m0.outcome=none∧m0.pc=(Sre.header code).2∧m0.answer=none∧m0.weight=0∧m0.wholeText=false:=by
   unfold Sre.forSearch
   rw[hh]
   simp only[Bool.or_eq_true,decide_eq_true_eq]
   rw[if_neg hlt]
   exact⟨_,rfl,rfl,rfl,rfl,rfl,rfl,rfl,rfl,rfl,rfl⟩
  refine key.elim fun m0 zz=>zz.elim fun e zz=>zz.elim fun e1 zz=>zz.elim fun e2 zz=>zz.elim fun e3 zz=>zz.elim fun e4 zz=>zz.elim fun e5 zz=>zz.elim fun e6 zz=>zz.elim fun e7 zz=>zz.elim fun e8 e9=> ?_
  have hf:m0.hasFirstSet=true:=by
   unfold Sre.M.hasFirstSet
   rw[e1,cL]
   exact⟨h2,by rw[h3];rfl⟩
  have adm:=vz (m:=m0) (f:=f) (fun i hi seen=>by rw[e1,e2];exact h i (e3▸hi) seen) (m0.lim+1-0) 0 m0.seen (ad (cN _) (aC (cF _).symm))
  rw[e2,e3]at adm
  refine⟨fun k=>(adm.1 fun i M=>k i).elim fun seen' ea=> ?_,fun b hb k z=>(adm.2 (z.imp fun i z=>⟨a9 i,z⟩)).elim fun i zz=>zz.elim fun seen' zz=>zz.elim fun hi zz=>zz.elim fun hfi ea=> ?_⟩
  ·unfold ou
   rw[e,show m0.attemptFrom 0 true=({m0 with seen:=seen'}:Sre.M).say false by unfold Sre.M.attemptFrom;rw[hf,e3,ea];rfl]
   exact⟨rfl,e4,e5⟩
  ·unfold A6
   rw[e,show m0.attemptFrom 0 true=({m0 with mustAdvance:=false,seen:=seen'}:Sre.M).attemptAt i true by unfold Sre.M.attemptFrom;rw[hf,e3,ea];rfl]
   exact BR (e1.trans hb) (e6.trans (by rw[hb];cases b<;>rfl)) e4 e5 e7 e8 rfl e9 (e3▸hi) fun seen=>e2▸k i hi hfi seen
theorem E6{x:List Nat}(h:clean x=true){i:Nat}(hi:i<x.toArray.size):32≤x.toArray.getD i 0∧x.toArray.getD i 0<127:=by
 have e:x.toArray.getD i 0=x[i]'hi:=dif_pos hi
 have:=ay.mp h _ (List.getElem_mem (l:=x) hi)
 rw[e]
 rw[cL]at this
 exact⟨aq this.1,aq this.2⟩
noncomputable def nB:Array Nat:= #[14,10,4,1,1,22,0,31,16,127,0,13,7,22,0,31,16,127,0,1]
theorem wc{x:List Nat}(h:clean x=true):ou nB x.toArray:=by
 refine(z4 (f:=fun M=>false) (.inl rfl) rfl rfl fun i hi seen=> ?_).1 fun M M=>rfl
 obtain⟨h1,h2⟩:=E6 h hi
 generalize x.toArray.getD i 0=c at h1 h2
 have e1:(decide (0≤c)&&decide (c≤31))=false:=by rw[decide_eq_false (p:=c≤31) (Nat.not_le.mpr h1),Bool.and_false]
 have e2:(c==127)=false:=beq_eq_false_iff_ne.mpr (cR h2)
 refine⟨((seen.add 22).add 16).add 0,?_⟩
 show(if(decide (0≤c)&&decide (c≤31))=true then .ok (true,seen.add 22)else if(c==127)=true then .ok (true,(seen.add 22).add 16)else Sre.inSet nB c 18 10 true ((seen.add 22).add 16))=_
 rw[e1,e2]
 rfl
noncomputable def sE(b:Bool)(c:Nat):Bool:=decide (c<256)&&((fL b).getD (5+(1+c/32)) 0).testBit (c%32)
theorem vH(b:Bool): ∀k,k<8→(fL b).getD (17+(1+k)) 0=(fL b).getD (5+(1+k)) 0:=by cases b<;>decide+kernel
theorem D7(b:Bool)(c:Nat)(seen:Sre.Seen): ∃seen',Sre.inSet (fL b) c (fL b).size 5 true seen= .ok (sE b c,seen'):=by
 have e:Sre.inSet (fL b) c (fL b).size 5 true seen=if sE b c=true then .ok (true,seen.add 9)else .ok (false,(seen.add 9).add 0):=by cases b<;>rfl
 rw[e]
 cases sE b c
 ·exact⟨_,rfl⟩
 ·exact⟨_,rfl⟩
theorem BM(b:Bool)(c:Nat)(h:sE b c=true)(seen:Sre.Seen): ∃seen',Sre.accepts (fL b) 15 c seen= .ok (true,seen'):=by
 have e:Sre.accepts (fL b) 15 c seen=if(decide (c<256)&&((fL b).getD (17+(1+c/32)) 0).testBit (c%32))=true then .ok (true,seen.add 9)else .ok (false,(seen.add 9).add 0):=by cases b<;>rfl
 have hc:c<256:=of_decide_eq_true (aM.mp h).1
 rw[e,vH b (c/32) (Nat.div_lt_of_lt_mul hc)]
 rw[if_pos (show(decide (c<256)&&((fL b).getD (5+(1+c/32)) 0).testBit (c%32))=true from h)]
 exact⟨_,rfl⟩
noncomputable def Cj(b:Bool)(x:List Nat):Bool×Bool:=(true,x.any (sE b))
theorem AZ{x:List Nat}{i:Nat}(hi:i<x.length):x.toArray.getD i 0=x[i]:=dif_pos (show i<x.toArray.size from hi)
theorem qt(b:Bool)(x:List Nat)(h:(Cj b x).1=true):zB (fL b) x.toArray (Cj b x).2:=by
 have z:=z4 (code:=fL b) (text:=x.toArray) (f:=sE b) (.inr (by cases b<;>rfl)) (by cases b<;>rfl) (by cases b<;>rfl) fun i M seen=>D7 b _ seen
 show zB (fL b) x.toArray (x.any (sE b))
 cases q:x.any (sE b)with
 |false=>exact z.1 fun i hi=>by rw[AZ hi];exact List.any_eq_false.mp q _ (List.getElem_mem _)|>dj.mpr
 |true=>
  refine z.2 b rfl (fun i M k seen=>BM b _ k seen) ?_
  refine(List.any_eq_true.mp q).elim fun c hc=>(List.getElem_of_mem hc.1).elim fun i hi=>hi.elim fun hi e=> ?_
  exact⟨i,hi,by rw[AZ hi,e];exact hc.2⟩
noncomputable def H9(x:List Nat):Bool×Bool:=(clean x,false)
theorem Bp(x:List Nat)(h:(H9 x).1=true):zB nB x.toArray (H9 x).2:=wc h
def Ac(T:Frag)(a:aB)(code:Array Nat):Prop:=∃fs tp items n t1 t2,T.lookup a=some {cls:= .type "re.Pattern",data:= .fields fs}∧fs.getD 6 .none= .int 0 t1∧fs.getD 2 .none= .int 0 t2∧fs.getD 5 .none= .ref tp∧T.lookup tp=some {cls:= .type "tuple",data:= .seq items n}∧
  (items.map Builtin.Re.reRawOf).map (·.toNat)=code
theorem yx{T:Frag}{B:bW}(Z:fg T B){a:aB}{code:Array Nat}(h:Ac T a code){ok:List Nat→Bool×Bool}(hs: ∀x,(ok x).1=true→zB code x.toArray (ok x).2):
  a ∉ B.tabs∧∃code,pe B.h0 a code∧(∀s W hp,R B W hp s→pe s.heap a code)∧∀x,(ok x).1=true→zB code x.toArray (ok x).2:=by
 refine h.elim fun fs zz=>zz.elim fun tp zz=>zz.elim fun items zz=>zz.elim fun n zz=>zz.elim fun t1 zz=>zz.elim fun t2 zz=>zz.elim fun h1 zz=>zz.elim fun h2 zz=>zz.elim fun h3 zz=>zz.elim fun h4 zz=>zz.elim fun h5 h6=> ?_
 exact⟨Z.out h1,code,⟨fs,tp,items,n,t1,t2,Z.X _ _ h1,h2,h3,h4,Z.X _ _ h5,h6⟩,fun s W hp Y=>⟨fs,tp,items,n,t1,t2,Z.at Y _ _ h1,h2,h3,h4,Z.at Y _ _ h5,h6⟩,hs⟩
noncomputable def qA:eB:=⟨⟨[],[],none,[],[],none,[]⟩,.stmts [],default⟩
noncomputable def cU(n:Str)(l:List bP):eB:=ej qA (fun s M r=>match s with
 | .FunctionDef name args body M Δ Θ scope Λ Φ Ψ=>cond (name==n) ⟨args,.stmts body,scope⟩ r
 |M=>r) l
noncomputable def gN(n:Str)(l:List bP):List bP:=ej [] (fun s M r=>match s with
 | .ClassDef name M Δ body Θ Λ Φ Ψ Ω η θ=>cond (name==n) body r
 |M=>r) l
noncomputable def b6(f:eB):List bP:=match f.body with
 | .stmts b=>b
 | .expr M=>[]
noncomputable def AD(l:List bP):List eB:=ej [] (fun s M r=>match s with
 | .Assign M e Δ=>(match e with
  | .Lambda args body scope M=>⟨args,.expr body,scope⟩::r
  |M=>r)
 |M=>r) l
noncomputable def f6:List bP:=Challenge.pw_ta0112_01.main.body
noncomputable def fH:List (Nat×eB):=[(1,cU (ae "inner") (b6 (cU (ae "_int2digits") f6))),(2,cU (ae "inner") (b6 (cU (ae "_digits2int") f6))),(3,(AD (b6 (cU (ae "_law_read") f6))).headD qA),(4,(AD (b6 (cU (ae "_law_read") f6))).tail.headD qA)]
noncomputable def uM:List (Str×GV):=[((ae "_netrclex"),.ref 139),((ae "_DIV_LIMIT"),.int 4000 291),((ae "_div2n1n"),.ref 45),((ae "_div3n2n"),.ref 52),((ae "_int2digits"),.ref 59),((ae "_digits2int"),.ref 66),((ae "_divmod_pos"),.ref 73),((ae "int_divmod"),.ref 80),((ae "_iter_escaped_chars"),.ref 87),((ae "_strip_quoted_realnames"),.ref 94),((ae "_check_parenthesis"),.ref 101),((ae "_formatparam"),.ref 166),((ae "tspecials"),.ref 148),((ae "_name_disallowed_re"),.ref 153),((ae "_value_disallowed_re"),.ref 158),((ae "Headers"),.ref 289),((ae "_law_rows"),.ref 300),((ae "_law_written"),.ref 305),((ae "_law_read"),.ref 310),((ae "_law_kept"),.ref 317),((ae "_law_limit"),.ref 324),((ae "_law_chain"),.ref 329),((ae "_law_lack"),.ref 334),((ae "len"),.bui "len"),((ae "min"),.bui "min"),((ae "sum"),.bui "sum"),((ae "divmod"),.bui "divmod"),((ae "iter"),.bui "iter"),((ae "abs"),.bui "abs"),((ae "sorted"),.bui "sorted"),((ae "range"),.typ "range"),((ae "list"),.typ "list"),((ae "int"),.typ "int"),((ae "str"),.typ "str"),((ae "type"),.typ "type"),((ae "reversed"),.typ "reversed"),((ae "enumerate"),.typ "enumerate"),((ae "ZeroDivisionError"),.typ "ZeroDivisionError"),((ae "ValueError"),.typ "ValueError")]
noncomputable def mM:List (aB×Fn):=[(45,⟨(cU (ae "_div2n1n") f6),[(3,[],[((ae "a"),.inl 0),((ae "b"),.inl 1),((ae "n"),.inl 2)])],false,false⟩),
 (52,⟨(cU (ae "_div3n2n") f6),[(6,[],[((ae "a12"),.inl 0),((ae "a3"),.inl 1),((ae "b"),.inl 2),((ae "b1"),.inl 3),((ae "b2"),.inl 4),((ae "n"),.inl 5)])],false,false⟩),
 (59,⟨(cU (ae "_int2digits") f6),[(2,[],[((ae "a"),.inl 0),((ae "n"),.inl 1)])],true,true⟩),
 (66,⟨(cU (ae "_digits2int") f6),[(2,[],[((ae "digits"),.inl 0),((ae "n"),.inl 1)])],false,true⟩),
 (73,⟨(cU (ae "_divmod_pos") f6),[(2,[],[((ae "a"),.inl 0),((ae "b"),.inl 1)])],false,false⟩),
 (80,⟨(cU (ae "int_divmod") f6),[(2,[],[((ae "a"),.inl 0),((ae "b"),.inl 1)])],false,false⟩),
 (94,⟨(cU (ae "_strip_quoted_realnames") f6),[(1,[],[((ae "addr"),.inl 0)])],false,false⟩),
 (101,⟨(cU (ae "_check_parenthesis") f6),[(1,[],[((ae "addr"),.inl 0)])],false,false⟩),
 (166,⟨(cU (ae "_formatparam") f6),[(3,[],[((ae "param"),.inl 0),((ae "value"),.inl 1),((ae "quote"),.inl 2)])],false,false⟩),
 (300,⟨(cU (ae "_law_rows") f6),[(1,[],[((ae "cells"),.inl 0)])],true,false⟩),
 (305,⟨(cU (ae "_law_written") f6),[(3,[],[((ae "name"),.inl 0),((ae "word"),.inl 1),((ae "more"),.inl 2)])],false,false⟩),
 (310,⟨(cU (ae "_law_read") f6),[(2,[],[((ae "text"),.inl 0),((ae "many"),.inl 1)])],true,true⟩),
 (317,⟨(cU (ae "_law_kept") f6),[(1,[],[((ae "pairs"),.inl 0)])],true,false⟩),
 (324,⟨(cU (ae "_law_limit") f6),[(1,[],[((ae "sizes"),.inl 0)])],false,false⟩),
 (329,⟨(cU (ae "_law_chain") f6),[(2,[],[((ae "table"),.inl 0),((ae "sign"),.inl 1)])],true,false⟩),
 (334,⟨(cU (ae "_law_lack") f6),[(2,[],[((ae "one"),.inl 0),((ae "gap"),.inl 1)])],false,false⟩),
 (339,⟨(cU (ae "law") f6),[(1,[],[((ae "script"),.inl 0)])],false,false⟩),
 (115,⟨(cU (ae "__init__") (gN (ae "_netrclex") f6)),[(2,[],[((ae "self"),.inl 0),((ae "fp"),.inl 1)])],false,false⟩),
 (122,⟨(cU (ae "_read_char") (gN (ae "_netrclex") f6)),[(1,[],[((ae "self"),.inl 0)])],false,false⟩),
 (129,⟨(cU (ae "get_token") (gN (ae "_netrclex") f6)),[(1,[],[((ae "self"),.inl 0)])],false,false⟩),
 (181,⟨(cU (ae "__init__") (gN (ae "Headers") f6)),[(1,[],[((ae "self"),.inl 0),((ae "headers"),.inr .none)])],false,false⟩),
 (188,⟨(cU (ae "_convert_string_type") (gN (ae "Headers") f6)),[(2,[(ae "name")],[((ae "self"),.inl 0),((ae "value"),.inl 1),((ae "name"),.inl 2)])],false,false⟩),
 (236,⟨(cU (ae "get") (gN (ae "Headers") f6)),[(2,[],[((ae "self"),.inl 0),((ae "name"),.inl 1),((ae "default"),.inr .none)])],false,false⟩),
 (253,⟨(cU (ae "items") (gN (ae "Headers") f6)),[(1,[],[((ae "self"),.inl 0)])],false,false⟩),
 (279,⟨(cU (ae "setdefault") (gN (ae "Headers") f6)),[(3,[],[((ae "self"),.inl 0),((ae "name"),.inl 1),((ae "value"),.inl 2)])],false,false⟩)]
noncomputable def D5:List (aB×aB):=[(139,115),(289,181)]
noncomputable def MZ:List (Str×aB):=[((ae "_read_char"),122),((ae "get_token"),129)]
noncomputable def Nb:List (Str×aB):=[((ae "_convert_string_type"),188),((ae "get"),236),((ae "items"),253),((ae "setdefault"),279)]
noncomputable def IS:List Str:=[(ae "instream"),(ae "lineno"),(ae "pushback"),(ae "whitespace")]
noncomputable def IY:List Str:=[(ae "_headers")]
noncomputable def Mj:List (Pos×Nat):=[(⟨36,4,45,28⟩,1),(⟨51,4,56,55⟩,2),(⟨276,13,276,25⟩,3),(⟨277,18,277,58⟩,4)]
noncomputable def ML:List Pos:=[⟨34,15,34,52⟩,⟨62,15,62,17⟩,⟨130,24,130,26⟩,⟨183,54,183,56⟩,⟨99,13,99,15⟩,⟨259,11,259,13⟩,⟨275,11,275,21⟩,⟨283,30,283,32⟩,⟨304,28,304,30⟩,⟨314,10,314,48⟩,⟨337,10,337,12⟩]
noncomputable def Md:List (Pos×Ty):=[(⟨99,13,99,15⟩,.str),(⟨130,24,130,26⟩,.str),(⟨183,54,183,56⟩,(.cons .str (.one .str))),(⟨257,11,257,72⟩,.str),(⟨258,10,258,54⟩,.str),(⟨259,11,259,13⟩,(.cons .int (.cons .str (.cons .str (.cons .int (.cons .bool (.one .int))))))),(⟨271,30,271,84⟩,.str),(⟨271,88,271,90⟩,.str),(⟨272,21,272,78⟩,.str),(⟨280,12,280,73⟩,(.cons .str (.one .str))),(⟨283,30,283,32⟩,(.alt (.cons .bool (.one .bool)) .str)),(⟨304,28,304,30⟩,(.cons .int (.one .int))),(⟨308,49,308,97⟩,.str),(⟨314,10,314,48⟩,(.cons .int (.one .int))),(⟨328,12,328,97⟩,.str),(⟨329,16,329,70⟩,.str),(⟨331,19,331,73⟩,.str),(⟨333,16,333,50⟩,(.cons .str (.one .str))),(⟨333,75,333,77⟩,.str),(⟨337,10,337,12⟩,(.alt (.cons .bool (.one .bool)) .str)),(⟨341,24,341,90⟩,.str),(⟨341,93,341,138⟩,.str),(⟨343,39,343,64⟩,(.cons .str (.one .str))),(⟨345,20,345,61⟩,(.cons .int (.one .int))),(⟨352,7,352,76⟩,(.cons .int (.one .int))),(⟨352,80,352,82⟩,(.cons .int (.one .int))),(⟨358,21,358,69⟩,(.cons .int (.one .int)))]
noncomputable def G3:fS:=MT uM mM fH D5 (MZ.map (fun p=>((139,p.1),p.2))++Nb.map fun p=>((289,p.1),p.2)) (IS.map (fun x=>(139,x))++IY.map fun x=>(289,x)) [(ae "read")] Mj ML Md [87] [(148,Cj true),(153,H9),(158,Cj false)]
structure jL(T:Frag)(C N i:aB)(ms:List (Str×aB))(ds:List Str):Prop where
 attr:Je T N=(true,some none,some none,some none)
 meth:ms.map (IN T N)=ms.map IM
 dat:ds.map (NX T N)=ds.map fun M=>(some none,some none)
 obj: ∃nm q bs sn sub ab col dd k0 k1 k2 k3 k5 newId,T.lookup C=some (excClassObj nm q C N bs [.type "object"] true sn sub ab col dd k0 k1 k2 k3 k5 newId)
 mks:makesIn T C=true
 ini:findIn T (.ref C) "__init__"=some (some (.ref i))
 typ:typeIn T (.ref i)=some (.type "function")
section
variable{T:Frag}{B:bW}{C N i:aB}{ms:List (Str×aB)}{ds:List Str}
theorem jL.cls(h:jL T C N i ms ds)(Z:fg T B):ox B C (B.h0.nsMap N):=by
 obtain⟨_,_,_,_,_,_,_,_,_,_,_,_,_,_,ho⟩:=h.obj
 exact Z.cls h.attr ho
theorem jL.init(h:jL T C N i ms ds)(Z:fg T B):vD B C i:=by
 obtain⟨_,_,_,_,_,_,_,_,_,_,_,_,_,_,ho⟩:=h.obj
 exact Z.init h.mks h.ini h.typ ho rfl rfl
theorem jL.meths(h:jL T C N i ms ds)(Z:fg T B){p:Str×aB}(m:p∈ms):zG B C p.1 p.2:=Z.meth (h.cls Z) (congrArg (·.1) h.attr) (lF h.meth m)
theorem jL.dats(h:jL T C N i ms ds)(Z:fg T B){x:Str}(m:x∈ds):FH B C x:=Z.dat (h.cls Z) (congrArg (·.1) h.attr) (lF h.dat m)
end
noncomputable def Iu:List (aB×aB):=[(309,307),(65,61),(58,54)]
noncomputable def Pi:dU:=⟨fun i=>(List.getD [⟨82,4,82,7⟩,⟨82,10,82,11⟩,⟨82,4,82,11⟩,⟨83,4,83,10⟩,⟨83,13,83,18⟩,⟨83,4,83,18⟩,⟨84,8,84,11⟩,⟨84,13,84,15⟩,⟨84,8,84,15⟩,⟨84,19,84,28⟩,⟨84,29,84,33⟩,⟨84,19,84,34⟩,⟨84,4,91,27⟩,⟨85,11,85,17⟩,⟨86,24,86,28⟩,⟨86,31,86,33⟩,⟨86,24,86,33⟩,⟨86,19,86,22⟩,⟨86,18,86,34⟩,⟨86,12,86,34⟩,⟨86,12,86,34⟩,⟨87,12,87,18⟩,⟨87,21,87,26⟩,⟨87,12,87,26⟩,⟨88,13,88,15⟩,⟨88,19,88,23⟩,⟨88,13,88,23⟩,⟨89,12,89,18⟩,⟨89,21,89,25⟩,⟨89,12,89,25⟩,⟨91,24,91,26⟩,⟨91,19,91,22⟩,⟨91,18,91,27⟩,⟨91,12,91,27⟩,⟨91,12,91,27⟩,⟨88,8,91,27⟩,⟨85,8,91,27⟩,⟨92,7,92,13⟩,⟨93,20,93,24⟩,⟨93,15,93,18⟩,⟨93,14,93,25⟩,⟨93,8,93,25⟩,⟨93,8,93,25⟩,⟨92,4,93,25⟩] i default),fun M=>0⟩
structure LH(T:Frag):Prop where
 ns:nsOkIn T bb=true
 globs:uM.map (El T)=uM.map Ej
 fns:mM.map (P2 T Iu)=mM.map (P1 T)
 lex:jL T 139 138 115 MZ IS
 hdr:jL T 289 288 181 Nb IY
 forms:sG 6 fun l=>sG 1 fun k=>∀S,(iT mM).map (AA T l k S)=(iT mM).map (Az l k)
 body:(fQ T 87).body= .stmts Pi.body
 esc:NO T 87=I5 T 87 374
 bind: ∀v,bindArgs (fQ T 87) ⟨[v],[]⟩=pure [(nb,v)]
 p0:Ac T 148 xt
 p1:Ac T 153 nB
 p2:Ac T 158 tI
theorem y3:(iT mM).map Ew=(iT mM).map fun M=>(true,true,true):=by kernel_rfl
theorem E5: ∀fd,sG 3 fun l=>fH.map (AQ fd l)=fH.map (AP l):=fun fd a b c=>(by kernel_rfl:fH.map (AQ fd [a,b,c])=fH.map (AP [a,b,c]))
theorem B6:fH.map I9=fH.map fun M=>(true,true):=by kernel_rfl
theorem Nd{T:Frag}{B:bW}(K:LH T)(Z:fg T B)(hc: ∀t,G3.code t=B.code t)(ht:B.ct=Iu):kN B G3:=by
 have gl: ∀{x:Str} {g:GV},uM.lookup x=some g→El T (x,g)=Ej (x,g):=fun e=>lF K.globs (fG e)
 refine{meth:=fun C x f e=> ?_,free:=fun x e=> ?_,dat:=fun C x e=> ?_,pat:=fun a ok e=> ?_,base:=Z.G,code:=hc,glob:=fun x v e=> ?_,init:=fun C i e=> ?_,gen:=fun a e=> ?_,fn:=fun a f e=> ?_,clos:=fun t fc e=>HR E5 B6 e}
 ·exact(cJ.mp (fG e)).elim (fun m=>(aP.mp m).elim fun p q=>by cases q.2;exact K.lex.meths Z q.1) fun m=>(aP.mp m).elim fun p q=>by cases q.2;exact K.hdr.meths Z q.1
 ·obtain rfl:=az.mp (cO.mp e)
  rw[cq,bB];kernel_rfl
 ·exact(cJ.mp (cO.mp e)).elim (fun m=>(aP.mp m).elim fun p q=>by cases q.2;exact K.lex.dats Z q.1) fun m=>(aP.mp m).elim fun p q=>by cases q.2;exact K.hdr.dats Z q.1
 ·have e:([(148,Cj true),(153,H9),(158,Cj false)]:List (aB×(List Nat→Bool×Bool))).lookup a=some ok:=e
  exact(aX.mp (fG e)).elim (fun q=>by cases q;exact yx Z K.p0 (qt true)) fun m=>(aX.mp m).elim (fun q=>by cases q;exact yx Z K.p1 Bp) fun m=>by cases az.mp m;exact yx Z K.p2 (qt false)
 ·refine kP e fun g h z1z=> ?_
  obtain rfl:=z1z
  exact fun e1 e2 Y hQ=>Au Z K.ns (gl h) e1 e2 Y hQ
 ·have e:D5.lookup C=some i:=e
  exact(aX.mp (fG e)).elim (fun q=>by cases q;exact K.lex.init Z) fun m=>by cases az.mp m;exact K.hdr.init Z
 ·obtain rfl:=az.mp (cO.mp e)
  have E:=Lb Z K.esc K.body K.bind
  exact⟨KY E Z.G fun e1 e2 Y q=>Au (g:= .typ "enumerate") Z K.ns (gl (by kernel_rfl)) e1 e2 Y fun va r=>(show va= .type "enumerate" from r)▸q,by cases E with |mk o fd X c oc vs tq ho ht hd=>exact⟨o,fd,ho,ht,hd⟩⟩
 ·have m:=fG e
  exact NB Z (ht▸lF K.fns m) fun b mb=>Eu Z K.forms y3 m mb
theorem ok{A B:Prop}(e:A=B)(h:A):B:=e▸h
theorem rr{α:Type}(v:α)(h:Hp):v=v∧h=h:=⟨rfl,rfl⟩
noncomputable def bT(s:bP)(b:Bool):List bP:=match s with
 | .If M x y Δ=>cond b x y
 | .For M Δ x y Θ=>cond b x y
 |M=>[]
noncomputable def cZ(l:List bP)(i:Nat):bP:=l.getD i (.Pass default)
noncomputable def cV(s:bP):Expr:=match s with
 | .Assign M e Δ=>e
 | .AugAssign M Δ e Θ=>e
 | .Return e M=>e.getD (.Constant .none 0 default)
 | .Expr e M=>e
 | .If e M Δ Θ=>e
 | .For M e Δ Θ Λ=>e
 |M=> .Constant .none 0 default
noncomputable def M6(e:Expr):List Expr:=match e with
 | .Call f as M Δ=>f::as
 | .BinOp a M b Δ=>[a,b]
 | .BoolOp M l Δ=>l
 | .UnaryOp M a Δ=>[a]
 | .IfExp a b c M=>[a,b,c]
 | .Compare a M l Δ=>a::l
 | .Subscript a b M=>[a,b]
 | .Tuple l M Δ=>l
 | .ListComp a M Δ Θ=>[a]
 |M=>[]
noncomputable def pH(e:Expr)(l:List Nat):Expr:=l.foldl (fun e i=>(M6 e).getD i e) e
noncomputable abbrev fb(G:fS)(n d:Nat):Ev:=LX G (iI G n) (yI G n).1 (yI G n).2 d
section
variable(G:fS)(n d:Nat)
def ka(s:bP)(Γ:Cx)(hp:Hp)(ds:Ds)(K:KF):Prop:=match s with
 | .For t i body els M=>K5 G (iI G n) (fb G n d) t i body els Γ hp ds K
 |M=>False
def eE(s:bP)(Γ:Cx)(x:V)(hp:Hp)(ds:Ds)(K:KF):Prop:=match s with
 | .For t M body Δ Θ=>pZ (fb G n d) t body Γ x hp ds K
 |M=>False
def eH(e:Expr)(Γ:Cx)(hp:Hp)(ds:Ds)(K:KV):Prop:=match e with
 | .ListComp elt gs scope p=>nh (fb G n d) (G.own p) (G.typ p) elt gs scope Γ hp ds K
 |M=>False
def oW(m:Nat)(u:Ty)(e:Expr)(Γ:Cx)(x:V)(hp:Hp)(ds:Ds)(K:List (den u)→Hp→Ds→Prop):Prop:=match e with
 | .ListComp elt gs scope p=>(match gs with
  |g::gs=>Fe (fb G n d) m u elt g gs Γ x hp ds K
  |[]=>False)
 |M=>False
def PV(m:Nat)(u:Ty)(e:Expr)(Γ:Cx)(x:V)(hp:Hp)(ds:Ds)(K:List (den u)→Hp→Ds→Prop):Prop:=match e with
 | .ListComp elt gs scope p=>(match gs.tail with
  |g::gs=>Fe (fb G n d) m u elt g gs Γ x hp ds K
  |[]=>False)
 |M=>False
end
section
variable{G:fS}{n m d fr:Nat}{names:List Str}{Γ:Cx}{hp hp':Hp}{α σ:Type}{e:α→V}
noncomputable def rK(f:eB)(fr:Nat)(cl:List (Str×Nat))(mk:Bool):Cx:=⟨f.scope.names,fI (fr+1) (cu f.scope.names) cl,fr,mk⟩
theorem Bq(t:Ty):Ty.same t t=some ⟨rfl⟩:=by
 induction t with
 |one a ih=>show(Ty.same a a).map _=_;rw[ih];rfl
 |list a ih=>show(Ty.same a a).map _=_;rw[ih];rfl
 |cons a b ia ib=>show(Ty.same a a).bind _=_;rw[ia];show(Ty.same b b).map _=_;rw[ib];rfl
 |alt a b ia ib=>show(Ty.same a a).bind _=_;rw[ia];show(Ty.same b b).map _=_;rw[ib];rfl
 |_=>rfl
theorem mQ{u:Ty}{l:List (den u)}:ma u u l=some l:=by unfold ma;rw[Bq];rfl
theorem BJ{u:Ty}{turn:V→Hp→Ds→(List (den u)→Hp→Ds→Prop)→Prop}{okf:Hp→Prop→Prop}{H:Hp}{f:α→List (den u)}(hok: ∀hp p,forget fr names hp=H→p→okf hp p)(l:List α)
  (h: ∀x∈l,∃hp1,rF u (turn (e x) H) (f x) hp1∧forget fr names hp1=H): ∀hp,forget fr names hp=H→∀(K:List (den u)→Hp→Ds→Prop) d,K (l.flatMap f) H d→∃d',iC u turn okf fr names (l.map e) hp d' K:=by
 induction l with
 |nil=>exact fun hp eh K d k=>⟨d,hok hp _ eh (eh.symm▸k)⟩
 |cons x l ih=>
  intro hp eh K d k
  refine(h x (.head _)).elim fun hp1 zz=>zz.elim fun hr hw=> ?_
  refine(ih (fun y m=>h y (.tail _ m)) hp1 hw (fun l hp ds=>K (f x++l) hp ds) d k).elim fun d' q=> ?_
  refine⟨.c u (f x) hp1::d',hok hp _ eh ?_⟩
  show fN (ma u u (f x)) fun l'=>rF u (turn (e x) (forget fr names hp)) l' hp1∧_
  rw[mQ,eh]
  exact⟨hr,q⟩
theorem yS{u:Ty}{turn:V→Hp→Ds→(List (den u)→Hp→Ds→Prop)→Prop}{okf:Hp→Prop→Prop}{H:σ→Hp}{f:α→List (den u)}(hok: ∀hp s p,forget fr names hp=H s→p→okf hp p)(l:List α)
  (h: ∀x∈l,∀s,∃hp1 s',rF u (turn (e x) (H s)) (f x) hp1∧forget fr names hp1=H s'): ∀hp s,forget fr names hp=H s→∀(K:List (den u)→Hp→Ds→Prop) d,(∀s,K (l.flatMap f) (H s) d)→∃d',iC u turn okf fr names (l.map e) hp d' K:=by
 induction l with
 |nil=>exact fun hp s eh K d k=>⟨d,hok hp s _ eh (eh.symm▸k s)⟩
 |cons x l ih=>
  intro hp s eh K d k
  refine(h x (.head _) s).elim fun hp1 zz=>zz.elim fun s' zz=>zz.elim fun hr hw=> ?_
  refine(ih (fun y m=>h y (.tail _ m)) hp1 s' hw (fun l hp ds=>K (f x++l) hp ds) d k).elim fun d' q=> ?_
  refine⟨.c u (f x) hp1::d',hok hp s _ eh ?_⟩
  show fN (ma u u (f x)) fun l'=>rF u (turn (e x) (forget fr names hp)) l' hp1∧_
  rw[mQ,eh]
  exact⟨hr,q⟩
theorem uZ{b:Bool}{p:Prop}(e:b=true)(h:p):cond b p False:=e▸h
theorem B4{u:Ty}{own:Bool}(c:Nat){e0:Expr}{Γc:Cx}{okf:Hp→Prop→Prop}{hp1 H:Hp}{l:List α}{f:α→List (den u)}{v:V}
  (h0: ∀ds (K:KV),cond (bz (l.map e).length c) (iC u (oW G n d c u e0 Γc) okf hp.length names (l.map e) hp1 ds (kr hp.length own u K)) False→eH G n d e0 Γ hp ds K)
  (hz:l.length≤c) (hok: ∀hp2 p,forget hp.length names hp2=H→p→okf hp2 p) (hH:forget hp.length names hp1=H) (hi: ∀x∈l,∃hp1,rF u (oW G n d c u e0 Γc (e x) H) (f x) hp1∧forget hp.length names hp1=H)
  (hk: ∀(K:KV) ds,K v hp' ds→kr hp.length own u K (l.flatMap f) H ds):gn (eH G n d e0 Γ hp) v hp':=by
 obtain⟨d',q⟩:=BJ (fr:=hp.length) hok l hi hp1 hH (kr hp.length own u fun v' h' M=>v'=v∧h'=hp') [] (hk _ _ ⟨rfl,rfl⟩)
 exact⟨d',h0 d' _ (uZ (by rw[aE];exact a8 hz) q)⟩
theorem dw{u:Ty}{own:Bool}{e0:Expr}{Γc:Cx}{okf:Hp→Prop→Prop}{hp1 H:Hp}{l:List α}{f:α→List (den u)}{v:V}
  (h0: ∀ds (K:KV),cond (bz (l.map e).length 1000000) (iC u (oW G n d 1000000 u e0 Γc) okf hp.length names (l.map e) hp1 ds (kr hp.length own u K)) False→eH G n d e0 Γ hp ds K)
  (hz:l.length≤1000000) (hok: ∀hp2 p,forget hp.length names hp2=H→p→okf hp2 p) (hH:forget hp.length names hp1=H) (hi: ∀x∈l,∃hp1,rF u (oW G n d 1000000 u e0 Γc (e x) H) (f x) hp1∧forget hp.length names hp1=H)
  (hk: ∀(K:KV) ds,K v hp' ds→kr hp.length own u K (l.flatMap f) H ds):gn (eH G n d e0 Γ hp) v hp':=B4 1000000 h0 hz hok hH hi hk
theorem tF{u:Ty}{own:Bool}{e0:Expr}{Γc:Cx}{okf:Hp→Prop→Prop}{hp1:Hp}{H:σ→Hp}{l:List α}{f:α→List (den u)}{v:V}(s0:σ)
  (h0: ∀ds (K:KV),cond (bz (l.map e).length 1000000) (iC u (oW G n d 1000000 u e0 Γc) okf hp.length names (l.map e) hp1 ds (kr hp.length own u K)) False→eH G n d e0 Γ hp ds K)
  (hz:l.length≤1000000) (hok: ∀hp2 s p,forget hp.length names hp2=H s→p→okf hp2 p) (hH:forget hp.length names hp1=H s0) (hi: ∀x∈l,∀s,∃hp1 s',rF u (oW G n d 1000000 u e0 Γc (e x) (H s)) (f x) hp1∧forget hp.length names hp1=H s')
  (hk: ∀(K:KV) ds s,K v hp' ds→kr hp.length own u K (l.flatMap f) (H s) ds):gn (eH G n d e0 Γ hp) v hp':=by
 refine(yS (fr:=hp.length) hok l hi hp1 s0 hH (kr hp.length own u fun v' h' M=>v'=v∧h'=hp') [] (fun s=>hk _ _ s ⟨rfl,rfl⟩)).elim fun d' q=> ?_
 exact⟨d',h0 d' _ (uZ (by rw[aE];exact a8 hz) q)⟩
theorem ct{a b:Bool}(h:cond a b false=true):a=true∧b=true:=by cases a with |true=>exact⟨rfl,h⟩|false=>injection h
theorem cs{β:Type}{a:Bool}{o:Option β}{v:β}(h:cond a o none=some v):a=true∧o=some v:=by cases a with |true=>exact⟨rfl,h⟩|false=>injection h
noncomputable def gL(okB:σ→α→Bool)(step:σ→α→σ)(l:List α)(s:σ):Option σ:=ej (motive:=fun M=>σ→Option σ) some (fun x M r s=>cond (okB s x) (r (step s x)) none) l s
def gw(okP:σ→α→Prop)(step:σ→α→σ)(l:List α)(s t:σ):Prop:=ej (motive:=fun M=>σ→Prop) (fun s=>s=t) (fun x M r s=>okP s x∧r (step s x)) l s
theorem fP{turn:V→Hp→Ds→KF→Prop}{okf:Hp→Prop→Prop}{okP:σ→α→Prop}{step:σ→α→σ}{H:σ→Hp}(hok: ∀s p,p→okf (H s) p)
  (h: ∀s x,okP s x→∃f hp1,eF (turn (e x) (H s)) f hp1∧(f= .next∨f= .cont)∧∀(next:Hp→Ds→Prop) ds,next (H (step s x)) ds→gB m [] (forget fr names hp1) fun M hp=>next hp ds) (l:List α):
  ∀{s t},gw okP step l s t→∀(K:KF) d,K .next (H t) d→∃d',kE turn okf m fr (l.map e) (H s) d' K:=by
 induction l with
 |nil=>exact fun{s t} q K d k=>⟨d,hok s _ ((show s=t from q)▸k)⟩
 |cons x l ih=>
  intro s t q K d k
  obtain⟨f,hp1,hr,hf,hw⟩:=h s x q.1
  obtain⟨d',q⟩:=ih q.2 K d k
  have q:=hw (fun hp ds=>kE turn okf m fr (l.map e) hp ds K) _ q
  exact⟨.l f hp1:: .g names::d',hok s _ ⟨hr,hf.elim (fun z=>z▸q) fun z=>z▸q⟩⟩
theorem J6{okB:σ→α→Bool}{step:σ→α→σ}(l:List α): ∀{s t},gL okB step l s=some t→gw (fun s x=>okB s x=true) step l s t:=by
 induction l with
 |nil=>exact fun h=>af h
 |cons x l ih=>exact fun{s t} h=>have q:=cs (show cond (okB s x) (gL okB step l (step s x)) none=some t from h);⟨q.1,ih q.2⟩
theorem jR{turn:V→Hp→Ds→KF→Prop}{okf:Hp→Prop→Prop}{okB:σ→α→Bool}{step:σ→α→σ}{H:σ→Hp}(hok: ∀s p,p→okf (H s) p)
  (h: ∀s x,okB s x=true→∃f hp1,eF (turn (e x) (H s)) f hp1∧(f= .next∨f= .cont)∧∀(next:Hp→Ds→Prop) ds,next (H (step s x)) ds→gB m [] (forget fr names hp1) fun M hp=>next hp ds) (l:List α)
  {s t:σ} (q:gL okB step l s=some t) (K:KF) (d:Ds) (k:K .next (H t) d): ∃d',kE turn okf m fr (l.map e) (H s) d' K:=fP (okP:=fun s x=>okB s x=true) hok h l (J6 l q) K d k
theorem BD{turn:V→Hp→Ds→KF→Prop}{okf:Hp→Prop→Prop}{okB:σ→α→Bool}{step:σ→α→σ}{H:σ→Hp}(hok: ∀s p,p→okf (H s) p)
  (h: ∀s x,okB s x=true→∃f hp1,eF (turn (e x) (H s)) f hp1∧(f= .next∨f= .cont)∧∀(next:Hp→Ds→Prop) ds,next (H (step s x)) ds→gB m [] (forget fr names hp1) fun M hp=>next hp ds) {x:α} {post:List α} {f:Fl} (pre:List α):
  ∀{s t},gL okB step pre s=some t→eF (turn (e x) (H t)) f hp→∀(K:KF) d,(∀next,pY m fr K next f hp d)→∃d',kE turn okf m fr ((pre++x::post).map e) (H s) d' K:=by
 induction pre with
 |nil=>exact fun{s t} q hr K d k=>⟨.l f hp::d,hok s _ ⟨af q▸hr,k _⟩⟩
 |cons y pre ih=>
  intro s t q hr K d k
  obtain⟨i2,q⟩:=cs (show cond (okB s y) (gL okB step pre (step s y)) none=some t from q)
  obtain⟨f,hp1,hr1,hf,hw⟩:=h s y i2
  refine(ih q hr K d k).elim fun d' q=> ?_
  have q:=hw (fun hp ds=>kE turn okf m fr ((pre++x::post).map e) hp ds K) _ q
  exact⟨.l f hp1:: .g names::d',hok s _ ⟨hr1,hf.elim (fun z=>z▸q) fun z=>z▸q⟩⟩
theorem Bu{okB:σ→α→Bool}{step:σ→α→σ}(l:List α): ∀{s},gL okB step l s=none→∃pre x post t,l=pre++x::post∧gL okB step pre s=some t∧okB t x=false:=by
 induction l with
 |nil=>exact fun h=>nomatch h
 |cons y l ih=>
  intro s h
  induction q:okB s y using ah with
  |false=>exact⟨[],y,l,s,rfl,rfl,q⟩
  |true=>
   have h:cond (okB s y) (gL okB step l (step s y)) none=none:=h
   rw[q]at h
   refine(ih h).elim fun pre zz=>zz.elim fun x zz=>zz.elim fun post zz=>zz.elim fun t zz=>zz.elim fun e zz=>zz.elim fun r1 r2=> ?_
   refine⟨y::pre,x,post,t,congrArg (y:: ·) e,?_,r2⟩
   show cond (okB s y) (gL okB step pre (step s y)) none=_
   rw[q]
   exact r1
end
abbrev C3(n:Nat)(a:aB)(args:List V)(hp:Hp):Ds→KV→Prop:=iI G3 n (.val (.ref a)) args [] hp
noncomputable def gS(s:String):eB:=cU (ae s) f6
noncomputable def nm(s:String):Str:=ae s
def Goes(m:Ds→KF→Prop)(f:Fl)(hp:Hp):Prop:=∀(K:KF) d,K f hp d→∃ds,m ds K
theorem ca{r:Ev}{s:bP}{l rest:List bP}{Γ:Cx}{hp hp1 hp2:Hp}{f:Fl}(e:l=s::rest)(h:Goes (bf r [s] Γ hp) .next hp1)(g:Goes (bf r rest Γ hp1) f hp2):Goes (bf r l Γ hp) f hp2:=by
 subst e
 exact fun K d k=>(g K d k).elim fun ds q=>h (fun f hp ds=>match f with
  | .next=>bf r rest Γ hp ds K
  | .brk=>K .brk hp ds
  | .cont=>K .cont hp ds
  | .ret v=>K (.ret v) hp ds) ds q
theorem Eh{r:Ev}{s:bP}{l rest:List bP}{Γ:Cx}{hp hp2:Hp}{v:V}(e:l=s::rest)(h:Goes (r.ex s Γ hp) (.ret v) hp2):Goes (bf r l Γ hp) (.ret v) hp2:=by
 subst e
 exact fun K d k=>h (fun f hp ds=>match f with
  | .next=>bf r rest Γ hp ds K
  | .brk=>K .brk hp ds
  | .cont=>K .cont hp ds
  | .ret v=>K (.ret v) hp ds) d k
section
variable{r:Ev}{Γ:Cx}
theorem yH(a b:List bP): ∀{hp:Hp} {ds:Ds} {K:KF},bf r (a++b) Γ hp ds K=bf r a Γ hp ds fun f hp ds=>match f with
  | .next=>bf r b Γ hp ds K
  | .brk=>K .brk hp ds
  | .cont=>K .cont hp ds
  | .ret v=>K (.ret v) hp ds:=by
 induction a with
 |nil=>exact rfl
 |cons s a ih=>
  intro hp ds K
  refine congrArg (r.ex s Γ hp ds) (funext fun f=>funext fun hp=>funext fun ds=> ?_)
  induction f using Fl.casesOn with
  |next=>exact ih
  |_=>rfl
theorem n7{a l rest:List bP}{hp hp1 hp2:Hp}{f:Fl}(e:l=a++rest)(h:Goes (bf r a Γ hp) .next hp1)(g:Goes (bf r rest Γ hp1) f hp2):Goes (bf r l Γ hp) f hp2:=by
 subst e
 exact fun K d k=>(g K d k).elim fun ds q=>(h _ ds q).elim fun ds q=>⟨ds,yH a rest▸q⟩
end
theorem As{n:Nat}{a:aB}{args:List V}{hp0 hp1 hp2 h':Hp}{fn:Fn}{bs:List (Str×V)}{l:List bP}{Γ:Cx}{v v':V}(e1:G3.fn a=some fn)(e2:(eU args.length [] fn.binds).bind (fT args [])=some bs)(e3:fn.code.body= .stmts l)(eg:⟨fn.code.scope.names,fI (hp0.length+1) (cu fn.code.scope.names) [],hp0.length,fn.mks⟩=Γ)
  (e4: ∀K:Hp→Prop,K hp1→gQ Γ bs (hp0++ .loc (gq fn.code.scope.names)::(cu fn.code.scope.names).map fun M=> .cell .unb) K) (g:Goes (bf (fb G3 n 30) l Γ hp1) (.ret v) hp2) (k: ∀K:V→Hp→Prop,K v' h'→nj hp0.length fn.frz v hp2 K):gn (C3 (n+1) a args hp0) v' h':=by
 refine(g (fun f hp' ds=>fN (P5 f) fun v=>nj hp0.length fn.frz v hp' fun v hp=>v=v'∧hp=h') [] (k _ ⟨rfl,rfl⟩)).elim fun ds q=> ?_
 refine⟨ds,?_⟩
 show fN (G3.fn a) fun fn=>fN ((eU args.length [] fn.binds).bind (fT args [])) fun bs=>oM (fb G3 n 30) fn.code fn.frz fn.mks [] bs hp0 ds fun v hp M=>v=v'∧hp=h'
 rw[e1]
 show fN ((eU args.length [] fn.binds).bind (fT args [])) fun bs=>oM (fb G3 n 30) fn.code fn.frz fn.mks [] bs hp0 ds fun v hp M=>v=v'∧hp=h'
 rw[e2]
 show oM (fb G3 n 30) fn.code fn.frz fn.mks [] bs hp0 ds fun v hp M=>v=v'∧hp=h'
 unfold oM
 rw[eg]
 refine e4 _ ?_
 rw[e3]
 exact q
noncomputable def kO(i:Int):Bool:=dZ i.natAbs (2^62)
theorem bU{i:Int}(h:kO i=true):aH i:=aq h
noncomputable def Kt(i:Int):Bool:=decide (0≤i)
noncomputable def gj(n:Nat):Bool:=bz n bS
theorem gZ{n:Nat}(h:gj n=true):n≤bS:=aq h
noncomputable def Pk(a b n:Int):Bool:=cond (kO a) (cond (decide ((aZ a:Int)-n≤4000)) (cond (!(b==0)) (dZ b.natAbs (2^30)) false) false) false
theorem nz{b:Int}(h:(!(b==0))=true):b≠0:=fun e=>by rw[e]at h;injection h
noncomputable def two(a b:Int):V:= .tc (.int a) (.tc (.int b) .t0)
theorem QA{n:Nat}{a b k:Int}(h:Pk a b k=true):gn (C3 (n+1) 45 [.int a,.int b,.int k] []) (two (a.fdiv b) (a.fmod b)) []:=
 have h1:=ct h
 have h2:=ct h1.2
 have h3:=ct h2.2
 ⟨[.b true],ok (by kernel_rfl) (ai (bU h1.1) (ai h2.1 (ai (ai (nz h3.1) (ai (bU h1.1) (aq h3.2))) (rr (two (a.fdiv b) (a.fmod b)) []))))⟩
noncomputable def uI(n:Int)(l:List Int):Hp:=[.fn 1 [(nm "n",1),(nm "inner",2),(nm "a_digits",3)] none,.cell (.int n),.cell (.own 0),.cell (.own 4),.list .int l]
noncomputable def fO(L R:Int):Int:=(L+R).fdiv (2^(1:Int).toNat)
noncomputable def lU(n:Int):Int:=2^n.toNat
noncomputable def M8(n x L R:Int):Bool:=cond (kO (fO L R-L)) (cond (kO n) (cond (Kt ((fO L R-L)*n)) (cond (decide ((fO L R-L)*n≤1000)) (kO (x.fdiv (lU ((fO L R-L)*n)))) false) false) false) false
noncomputable def FM(n:Int)(k:Nat):Int→Int→Int→List Int→Option (List Int):=Nat.rec (motive:=fun M=>Int→Int→Int→List Int→Option (List Int)) (fun M M M M=>none) (fun M r x L R l=>cond (L+1==R) (cond (Kt L) (cond (decide (L<l.length)) (some (l.set L.toNat x)) none) none)
  (cond (M8 n x L R) ((r (Builtin.bitXor x (x.fdiv (lU ((fO L R-L)*n))*lU ((fO L R-L)*n))) L (fO L R) l).bind fun l=>r (x.fdiv (lU ((fO L R-L)*n))) (fO L R) R l) none)) k
theorem Pp{n:Int}{j k:Nat}: ∀{x L R:Int} {l l':List Int},FM n k x L R l=some l'→gn (iI G3 (j+k) (.own 0) [.int x,.int L,.int R] [] (uI n l)) .none (uI n l'):=by
 induction k with
 |zero=>exact fun h=>nomatch h
 |succ k ih=>
  intro x L R l l' h
  induction q:(L+1==R)using ah with
  |true=>
   have h:cond (L+1==R) (cond (Kt L) (cond (decide (L<l.length)) (some (l.set L.toNat x)) none) none) _=some l':=h
   rw[q]at h
   obtain⟨h1,h⟩:=cs h
   obtain⟨h2,h⟩:=cs h
   exact⟨[.b true],ok (by kernel_rfl) (ai q (ai (ai (of_decide_eq_true h1) (of_decide_eq_true h2)) (ai rfl (congrArg (uI n) (af h)):V.none=V.none∧uI n (l.set L.toNat x)=uI n l')))⟩
  |false=>
   have h:cond (L+1==R) _ (cond (M8 n x L R) ((FM n k (Builtin.bitXor x (x.fdiv (lU ((fO L R-L)*n))*lU ((fO L R-L)*n))) L (fO L R) l).bind fun l=>FM n k (x.fdiv (lU ((fO L R-L)*n))) (fO L R) R l) none)=some l':=h
   rw[q]at h
   obtain⟨h1,h⟩:=cs h
   refine jD h fun l2 h2 h3=> ?_
   have a1:=ct h1
   have a2:=ct a1.2
   have a3:=ct a2.2
   have a4:=ct a3.2
   exact⟨[.b false,.r .none (uI n l2),.r .none (uI n l')],ok (by kernel_rfl) (ai q (ai (by decide:(0:Int)≤1) (ai (ai (bU a1.1) (bU a2.1)) (ai (of_decide_eq_true a3.1:0≤(fO L R-L)*n)
    (ai (ai (of_decide_eq_true a3.1:0≤(fO L R-L)*n) (ai (of_decide_eq_true a4.1) (bU a4.2))) (ai (ih h2) (ai (ih h3) (rr V.none (uI n l')))))))))⟩
noncomputable def zh(a n:Int):Int:=((aZ a:Int)+n-1).fdiv n
noncomputable def kS(a n:Int):List Int:=(cH (zh a n).toNat [(0:Int)]).flatten
noncomputable def He(a n:Int):Bool:=cond (kO a) (cond (!(n==0)) (cond (kO ((aZ a:Int)+n-1)) (cond (dZ n.natAbs (2^30)) (cond (kO (zh a n)) (cond (gj (1*(zh a n).toNat)) (gj (kS a n).length) false) false) false) false) false) false
noncomputable def OD(a n:Int):Option (List Int):=cond (He a n) (cond (a !=0) (FM n 8 a 0 (kS a n).length (kS a n)) (some (kS a n))) none
theorem Hc{a n:Int}(h:He a n=true):aH a∧(n≠0∧aH ((aZ a:Int)+n-1)∧n.natAbs<2^30)∧(aH (zh a n)∧1*(zh a n).toNat≤bS)∧(kS a n).length≤bS:=
 have h1:=ct h
 have h2:=ct h1.2
 have h3:=ct h2.2
 have h4:=ct h3.2
 have h5:=ct h4.2
 have h6:=ct h5.2
 ⟨bU h1.1,⟨nz h2.1,bU h3.1,aq h4.1⟩,⟨bU h5.1,gZ h6.1⟩,gZ h6.2⟩
theorem PF{j:Nat}{a n:Int}{l:List Int}(h:OD a n=some l):gn (C3 (j+9) 59 [.int a,.int n] []) (.lst .int l) []:=by
 refine(cs h).elim fun h1 h2=> ?_
 have p:=Hc h1
 induction q:(a !=0)using ah with
 |true=>
  rw[q]at h2
  exact⟨[.b true,.r .none (uI n l)],ok (by kernel_rfl) (ai (by decide:1≤bS) (ai p.1 (ai p.2.1 (ai p.2.2.1 (ai p.2.2.2 (ai (rfl:fH.lookup 1=fH.lookup 1) (ai q (ai (Pp (j:=j) (k:=8) h2) (rr (V.lst .int l) [])))))))))⟩
 |false=>
  rw[q]at h2
  exact⟨[.b false],ok (by kernel_rfl) (ai (by decide:1≤bS) (ai p.1 (ai p.2.1 (ai p.2.2.1 (ai p.2.2.2 (ai (rfl:fH.lookup 1=fH.lookup 1) (ai q (ai (congrArg (V.lst .int) (af h2)) (rfl:([]:Hp)=[])))))))))⟩
noncomputable def uJ(n:Int)(l:List Int):Hp:=[.fn 2 [(nm "n",1),(nm "inner",2),(nm "digits",3)] none,.cell (.int n),.cell (.own 0),.cell (.own 4),.list .int l]
noncomputable def D9(n L R:Int):Bool:=cond (kO (fO L R-L)) (cond (kO n) (cond (Kt ((fO L R-L)*n)) (decide ((fO L R-L)*n≤1000)) false) false) false
noncomputable def H8(l:List Int)(i:Int):Int:=getD l i 0
noncomputable def uG(n:Int)(l:List Int)(k:Nat):Int→Int→Option Int:=Nat.rec (motive:=fun M=>Int→Int→Option Int) (fun M M=>none) (fun M r L R=>cond (L+1==R) (cond (eQ l.length L).isSome (some (H8 l L)) none)
  (cond (D9 n L R) ((r (fO L R) R).bind fun x=>cond (kO x) ((r L (fO L R)).map fun y=>x*lU ((fO L R-L)*n)+y) none) none)) k
theorem N8{n:Int}{j k:Nat}{l:List Int}: ∀{L R v:Int},uG n l k L R=some v→gn (iI G3 (j+k) (.own 0) [.int L,.int R] [] (uJ n l)) (.int v) (uJ n l):=by
 induction k with
 |zero=>exact fun h=>nomatch h
 |succ k ih=>
  intro L R v h
  induction q:(L+1==R)using ah with
  |true=>
   have h:cond (L+1==R) (cond (eQ l.length L).isSome (some (H8 l L)) none) _=some v:=h
   rw[q]at h
   obtain⟨h1,h⟩:=cs h
   exact⟨[.b true],ok (by kernel_rfl) (ai q (ai h1 (ai (congrArg V.int (af h)) (rfl:uJ n l=uJ n l))))⟩
  |false=>
   have h:cond (L+1==R) _ (cond (D9 n L R) ((uG n l k (fO L R) R).bind fun x=>cond (kO x) ((uG n l k L (fO L R)).map fun y=>x*lU ((fO L R-L)*n)+y) none) none)=some v:=h
   rw[q]at h
   obtain⟨h1,h⟩:=cs h
   refine jD h fun x h2 h3=> ?_
   obtain⟨h4,h3⟩:=cs h3
   refine kP h3 fun y h5 h6=> ?_
   have a1:=ct h1
   have a2:=ct a1.2
   have a3:=ct a2.2
   exact⟨[.b false,.r (.int x) (uJ n l),.r (.int y) (uJ n l)],ok (by kernel_rfl) (ai q (ai (by decide:(0:Int)≤1) (ai (ai (bU a1.1) (bU a2.1)) (ai (ih h2)
    (ai (ai (of_decide_eq_true a3.1:0≤(fO L R-L)*n) (ai (of_decide_eq_true a3.2) (bU h4))) (ai (ih h5) (ai (congrArg V.int h6) (rfl:uJ n l=uJ n l))))))))⟩
noncomputable def OH(n:Int)(l:List Int):Option Int:=cond l.isEmpty (some 0) (uG n l 8 0 l.length)
theorem PE{j:Nat}{n v:Int}{l:List Int}(h:OH n l=some v):gn (C3 (j+9) 66 [.own 0,.int n] [.list .int l]) (.int v) [.list .int l]:=by
 induction l using aO with
 |nil=>exact⟨[.b false],ok (by kernel_rfl) (ai (rfl:fH.lookup 2=fH.lookup 2) (ai (rfl:false=false) (ai (congrArg V.int (af h)) (rfl:([.list .int []]:Hp)=[.list .int []]))))⟩
 |cons x l=>exact⟨[.b true,.r (.int v) (uJ n (x::l))],ok (by kernel_rfl) (ai (rfl:fH.lookup 2=fH.lookup 2) (ai (rfl:true=true) (ai (N8 (j:=j) (k:=8) h) (rr (V.int v) [.list .int (x::l)]))))⟩
noncomputable def MD:bP:=cZ (b6 (gS "_divmod_pos")) 4
noncomputable def hD(a b:Int)(l:List Int)(s:Int×List Int)(x y:V):Hp:=[.loc [(nm "a",.int a),(nm "b",.int b),(nm "n",.int (aZ b)),(nm "a_digits",.lst .int l),(nm "r",.int s.1),(nm "q_digits",.own 1),(nm "a_digit",x),(nm "q_digit",y),(nm "q",.unb)],.list .int s.2]
noncomputable def FP(b:Int)(s:Int×List Int)(d:Int):Int:=s.1*lU (aZ b)+d
noncomputable def Li(b:Int)(s:Int×List Int)(d:Int):Bool:=cond (kO s.1) (cond (Pk (FP b s d) b (aZ b)) (gj (s.2++[(FP b s d).fdiv b]).length) false) false
noncomputable def HC(b:Int)(s:Int×List Int)(d:Int):Int×List Int:=((FP b s d).fmod b,s.2++[(FP b s d).fdiv b])
theorem GU{j:Nat}{a b:Int}{l:List Int}{t:Int×List Int}(hb:bz (aZ b) 1000=true)(h:gL (Li b) (HC b) l.reverse (0,[])=some t):
  eF (ka G3 (j+1) 29 MD (rK (gS "_divmod_pos") 0 [] false) (hD a b l (0,[]) .unb .unb)) .next (hD a b l t .unb .unb):=by
 obtain⟨d,q⟩:=jR (turn:=eE G3 (j+1) 29 MD (rK (gS "_divmod_pos") 0 [] false)) (okf:=fun M p=>p) (m:=2) (fr:=0) (names:=[nm "a_digit",nm "q_digit"]) (e:=V.int) (H:=fun s=>hD a b l s .unb .unb) (fun M M p=>p)
  (fun s x hs=>by
   have h1:=ct hs
   have h2:=ct h1.2
   have hn:(aZ b:Int)≤1000:=bN.mpr (aq hb)
   exact⟨.next,hD a b l (HC b s x) (.int x) (.int ((FP b s x).fdiv b)),⟨[.r (two ((FP b s x).fdiv b) ((FP b s x).fmod b)) []],ok (by kernel_rfl) (ai (ai (aK (aZ b)) (ai hn (bU h1.1))) (ai (QA (n:=j) h2.1) (ai (gZ h2.2) (rr Fl.next (hD a b l (HC b s x) (.int x) (.int ((FP b s x).fdiv b)))))))⟩,.inl rfl,fun next ds k=>ok (by kernel_rfl) k⟩)
  l.reverse h (fun f h' M=>f= .next∧h'=hD a b l t .unb .unb) [] ⟨rfl,rfl⟩
 exact⟨d,ok (by kernel_rfl) q⟩
noncomputable def LZ(a b:Int):Option (Int×Int):=cond (kO b) (cond (bz (aZ b) 1000) ((OD a (aZ b)).bind fun l=>(gL (Li b) (HC b) l.reverse (0,[])).bind fun t=>(OH (aZ b) t.2.reverse).map fun q=>(q,t.1)) none) none
theorem PD{j:Nat}{a b:Int}{v:Int×Int}(h:LZ a b=some v):gn (C3 (j+10) 73 [.int a,.int b] []) (two v.1 v.2) []:=by
 refine(cs h).elim fun h1 h=> ?_
 refine(cs h).elim fun h2 h=> ?_
 refine jD h fun l h3 h=> ?_
 refine jD h fun t h4 h=> ?_
 refine kP h fun q h5 z1z=> ?_
 obtain rfl:=z1z
 exact⟨[.r (.lst .int l) [],.l .next (hD a b l t .unb .unb),.r (.int q) [.list .int t.2.reverse]],ok (by kernel_rfl) (ai (bU h1) (ai (PF (j:=j) h3) (ai (by decide:0≤bS) (ai (GU (j:=j+8) (a:=a) h2 h4) (ai (PE (j:=j) h5) (rr (two q t.1) []))))))⟩
noncomputable def uH(a b:Int)(k:Nat):Option (Int×Int):=Nat.rec (motive:=fun M=>Int→Int→Option (Int×Int)) (fun M M=>none) (fun M r a b=>cond (b==0) none (cond (decide (b<0)) ((r (-a) (-b)).map fun v=>(v.1,-v.2)) (cond (decide (a<0)) ((r (bg a) b).map fun v=>(bg v.1,b+bg v.2)) (LZ a b)))) k a b
theorem H1{j k:Nat}: ∀{a b:Int} {v:Int×Int},uH a b k=some v→gn (C3 (j+10+k) 80 [.int a,.int b] []) (two v.1 v.2) []:=by
 induction k with
 |zero=>exact fun h=>nomatch h
 |succ k ih=>
  intro a b v h
  have h:cond (b==0) none (cond (decide (b<0)) ((uH (-a) (-b) k).map fun v=>(v.1,-v.2)) (cond (decide (a<0)) ((uH (bg a) b k).map fun v=>(bg v.1,b+bg v.2)) (LZ a b)))=some v:=h
  rcases q0:(b==0)with _|_<;>rw[q0]at h
  ·rcases q1:decide (b<0)with _|_<;>rw[q1]at h
   ·rcases q2:decide (a<0)with _|_<;>rw[q2]at h
    ·exact⟨[.b false,.b false,.b false,.r (two v.1 v.2) []],ok (by kernel_rfl) (ai q0 (ai q1 (ai q2 (ai (Nat.add_right_comm j 10 k▸PD (j:=j+k) h) (rr (two v.1 v.2) [])))))⟩
    ·refine kP h fun w h1 z1z=> ?_
     obtain rfl:=z1z
     exact⟨[.b false,.b false,.b true,.r (two w.1 w.2) []],ok (by kernel_rfl) (ai q0 (ai q1 (ai q2 (ai (ih h1) (rr (two (bg w.1) (b+bg w.2)) [])))))⟩
   ·obtain⟨w,h1,rfl⟩:=bG.mp h
    exact⟨[.b false,.b true,.r (two w.1 w.2) []],ok (by kernel_rfl) (ai q0 (ai q1 (ai (ih h1) (rr (two w.1 (-w.2)) []))))⟩
  ·injection h
noncomputable def J4:bP:=cZ (b6 (gS "_strip_quoted_realnames")) 4
structure Jg where
 start:Int
 op:Option Int
 res:List (List Nat)
noncomputable def Qr(o:Option Int):V:=cD .none .int o
noncomputable def hS(x:List Nat)(s:Jg)(p c:V):Hp:=[.loc [(nm "addr",.str x),(nm "start",.int s.start),(nm "open_pos",Qr s.op),(nm "result",.own 1),(nm "pos",p),(nm "ch",c)],.list .str s.res]
noncomputable def xn(x:List Nat)(s:Jg)(o:Int):List (List Nat):=s.res++[jG x (clipAt x.length s.start) (clipAt x.length o)]
noncomputable def f8(c:List Nat):Bool:=c==[34]
noncomputable def Oz(x:List Nat)(s:Jg)(q:Int×List Nat):Bool:=cond (f8 q.2) (cD true (fun o=>cond (!(s.start==o)) (gj (xn x s o).length) true) s.op) true
noncomputable def LN(x:List Nat)(s:Jg)(q:Int×List Nat):Jg:=cond (f8 q.2) (cD ⟨s.start,some q.1,s.res⟩ (fun o=>⟨q.1+1,none,cond (!(s.start==o)) (xn x s o) s.res⟩) s.op) s
theorem Gc{n:Nat}{x:List Nat}(s:Jg)(q:Int×List Nat)(h:Oz x s q=true): ∃f hp1,eF (eE G3 n 29 J4 (rK (gS "_strip_quoted_realnames") 0 [] false) (uW q) (hS x s .unb .unb)) f hp1∧(f= .next∨f= .cont)∧
  ∀(next:Hp→Ds→Prop) ds,next (hS x (LN x s q) .unb .unb) ds→gB 2 [] (forget 0 [nm "pos",nm "ch"] hp1) fun M hp=>next hp ds:=by
 obtain⟨st,op,res⟩:=s
 obtain⟨p,c⟩:=q
 refine⟨.next,hS x (LN x ⟨st,op,res⟩ (p,c)) (.int p) (.str c),?_,.inl rfl,?_⟩
 ·unfold LN Oz at *
  induction q:f8 c using ah with
  |false=>exact⟨[.b false],ok (by kernel_rfl) (ai q (rr Fl.next (hS x ⟨st,op,res⟩ (.int p) (.str c))))⟩
  |true=>
   induction op using aw with
   |none=>exact⟨[.b true],ok (by kernel_rfl) (ai q (rr Fl.next (hS x ⟨st,some p,res⟩ (.int p) (.str c))))⟩
   |some o=>
    have h:cond (f8 c) (cond (!(st==o)) (gj (xn x ⟨st,some o,res⟩ o).length) true) true=true:=h
    rw[q]at h
    induction z:(!(st==o))using ah with
    |false=>exact⟨[.b true,.t,.b false],ok (by kernel_rfl) (ai q (ai z (ai rfl (congrArg (fun b=>hS x ⟨p+1,none,cond b (xn x ⟨st,some o,res⟩ o) res⟩ (.int p) (.str c)) z.symm):Fl.next=Fl.next∧hS x ⟨p+1,none,res⟩ (.int p) (.str c)=hS x ⟨p+1,none,cond (!(st==o)) (xn x ⟨st,some o,res⟩ o) res⟩ (.int p) (.str c))))⟩
    |true=>
     rw[z]at h
     exact⟨[.b true,.t,.b true],ok (by kernel_rfl) (ai q (ai z (ai (gZ h) (ai rfl (congrArg (fun b=>hS x ⟨p+1,none,cond b (xn x ⟨st,some o,res⟩ o) res⟩ (.int p) (.str c)) z.symm):Fl.next=Fl.next∧hS x ⟨p+1,none,xn x ⟨st,some o,res⟩ o⟩ (.int p) (.str c)=hS x ⟨p+1,none,cond (!(st==o)) (xn x ⟨st,some o,res⟩ o) res⟩ (.int p) (.str c)))))⟩
 ·intro next ds k
  unfold LN at *
  induction q:f8 c using ah with
  |false=>rw[q]at k;rcases op with _|_<;>exact ok (by kernel_rfl) k
  |true=>rw[q]at k;rcases op with _|_<;>exact ok (by kernel_rfl) k
theorem Ah{n:Nat}{x:List Nat}{t:Jg}(h:gL (Oz x) (LN x) (f9 0 false x) ⟨0,none,[]⟩=some t):
  eF (ka G3 n 29 J4 (rK (gS "_strip_quoted_realnames") 0 [] false) (hS x ⟨0,none,[]⟩ .unb .unb)) .next (hS x t .unb .unb):=by
 obtain⟨d,q⟩:=jR (turn:=eE G3 n 29 J4 (rK (gS "_strip_quoted_realnames") 0 [] false)) (okf:=fun M p=>p) (m:=2) (fr:=0) (names:=[nm "pos",nm "ch"]) (e:=uW) (H:=fun s=>hS x s .unb .unb) (fun M M p=>p) Gc
  (f9 0 false x) h (fun f h' M=>f= .next∧h'=hS x t .unb .unb) [] ⟨rfl,rfl⟩
 exact⟨d,ok (by kernel_rfl) q⟩
noncomputable def Hw(x:List Nat)(s:Jg):List (List Nat):=cond (decide (s.start<x.length)) (s.res++[jG x (clipAt x.length s.start) x.length]) s.res
noncomputable def l4(x:List Nat):Option (List Nat):=cond (!x.contains 34) (some x) ((gL (Oz x) (LN x) (f9 0 false x) ⟨0,none,[]⟩).bind fun s=>cond (gj (Hw x s).length) (cond (gj (gC [] (Hw x s)).length) (some (gC [] (Hw x s))) none) none)
theorem Ob{n:Nat}{x y:List Nat}(h:l4 x=some y):gn (C3 (n+1) 94 [.str x] []) (.str y) []:=by
 unfold l4 at h
 cases q:(!x.contains 34)with
 |true=>
  rw[q]at h
  exact⟨[.b true],ok (by kernel_rfl) (ai q (ai (congrArg V.str (af h)) (rfl:([]:Hp)=[])))⟩
 |false=>
  rw[q]at h
  refine jD h fun s h1 h2=> ?_
  refine(cs h2).elim fun h3 h4=> ?_
  refine(cs h4).elim fun h5 h6=> ?_
  obtain rfl:=af h6
  have b2:=gZ h3
  have b3:=gZ h5
  unfold Hw at *
  cases z:decide (s.start<x.length)with
  |true=>
   rw[z]at b2 b3
   exact⟨[.b false,.l .next (hS x s .unb .unb),.b true],ok (by kernel_rfl) (ai q (ai (by decide:0≤bS) (ai (Ah (n:=n) h1) (ai z (ai b2 (ai b3 (rr (V.str (gC [] (s.res++[jG x (clipAt x.length s.start) x.length]))) [])))))))⟩
  |false=>
   rw[z]at b2 b3
   exact⟨[.b false,.l .next (hS x s .unb .unb),.b false],ok (by kernel_rfl) (ai q (ai (by decide:0≤bS) (ai (Ah (n:=n) h1) (ai z (ai b3 (rr (V.str (gC [] s.res)) []))))))⟩
noncomputable def Bt:bP:=cZ (b6 (gS "_check_parenthesis")) 2
noncomputable def hC(y:List Nat)(o:Int)(p c:V):Hp:=[.loc [(nm "addr",.str y),(nm "opens",.int o),(nm "pos",p),(nm "ch",c)]]
noncomputable def n6(c:List Nat):Bool:=c==[40]
noncomputable def nZ(c:List Nat):Bool:=c==[41]
noncomputable def OI(o:Int)(q:Int×List Nat):Bool:=cond (n6 q.2) true (cond (nZ q.2) (!decide (o-1<0)) true)
noncomputable def N6(o:Int)(q:Int×List Nat):Int:=cond (n6 q.2) (o+1) (cond (nZ q.2) (o-1) o)
theorem zO{n:Nat}{y:List Nat}(o:Int)(q:Int×List Nat)(h:OI o q=true): ∃f hp1,eF (eE G3 n 29 Bt (rK (gS "_check_parenthesis") 0 [] false) (uW q) (hC y o .unb .unb)) f hp1∧(f= .next∨f= .cont)∧
  ∀(next:Hp→Ds→Prop) ds,next (hC y (N6 o q) .unb .unb) ds→gB 1 [] (forget 0 [nm "pos",nm "ch"] hp1) fun M hp=>next hp ds:=by
 obtain⟨p,c⟩:=q
 refine⟨.next,hC y (N6 o (p,c)) (.int p) (.str c),?_,.inl rfl,fun next ds k=>ok (by kernel_rfl) k⟩
 unfold OI N6 at *
 induction a:n6 c using ah with
 |true=>exact⟨[.b true],ok (by kernel_rfl) (ai a (rr Fl.next (hC y (o+1) (.int p) (.str c))))⟩
 |false=>
  induction b:nZ c using ah with
  |false=>exact⟨[.b false,.b false],ok (by kernel_rfl) (ai a (ai b (rr Fl.next (hC y o (.int p) (.str c)))))⟩
  |true=>
   have h:cond (n6 c) true (cond (nZ c) (!decide (o-1<0)) true)=true:=h
   rw[a,b]at h
   exact⟨[.b false,.b true,.b false],ok (by kernel_rfl) (ai a (ai b (ai ((Bool.not_eq_true' _).mp h) (rr Fl.next (hC y (o-1) (.int p) (.str c))))))⟩
noncomputable def E7(y:List Nat):Bool:=cD false (fun o=>o==0) (gL OI N6 (f9 0 false y) 0)
theorem PC{n:Nat}{x y:List Nat}(h:l4 x=some y):gn (C3 (n+2) 101 [.str x] []) (.bool (E7 y)) []:=by
 unfold E7
 induction r:gL OI N6 (f9 0 false y) 0 using aw with
 |some o=>
  obtain⟨d,q⟩:=jR (turn:=eE G3 (n+1) 29 Bt (rK (gS "_check_parenthesis") 0 [] false)) (okf:=fun M p=>p) (m:=1) (fr:=0) (names:=[nm "pos",nm "ch"]) (e:=uW) (H:=fun s=>hC y s .unb .unb) (fun M M p=>p) zO
   (f9 0 false y) r (fun f h' M=>f= .next∧h'=hC y o .unb .unb) [] ⟨rfl,rfl⟩
  have q:eF (ka G3 (n+1) 29 Bt (rK (gS "_check_parenthesis") 0 [] false) (hC y 0 .unb .unb)) .next (hC y o .unb .unb):=⟨d,ok (by kernel_rfl) q⟩
  exact⟨[.r (.str y) [],.l .next (hC y o .unb .unb)],ok (by kernel_rfl) (ai (Ob (n:=n) h) (ai q (rr (V.bool (o==0)) [])))⟩
 |none=>
  obtain⟨pre,⟨p,c⟩,post,t,e,r1,r2⟩:=Bu _ r
  have ht:eF (eE G3 (n+1) 29 Bt (rK (gS "_check_parenthesis") 0 [] false) (uW (p,c)) (hC y t .unb .unb)) (.ret (.bool false)) (hC y (t-1) (.int p) (.str c)):=by
   have r2:cond (n6 c) true (cond (nZ c) (!decide (t-1<0)) true)=false:=r2
   induction a:n6 c using ah with
   |true=>rw[a]at r2;injection r2
   |false=>
    induction b:nZ c using ah with
    |false=>rw[a,b]at r2;injection r2
    |true=>
     rw[a,b]at r2
     exact⟨[.b false,.b true,.b true],ok (by kernel_rfl) (ai a (ai b (ai ((Bool.not_eq_false' _).mp r2) (rr (Fl.ret (.bool false)) (hC y (t-1) (.int p) (.str c))))))⟩
  obtain⟨d,q⟩:=BD (turn:=eE G3 (n+1) 29 Bt (rK (gS "_check_parenthesis") 0 [] false)) (okf:=fun M p=>p) (m:=1) (fr:=0) (names:=[nm "pos",nm "ch"]) (e:=uW) (H:=fun s=>hC y s .unb .unb) (post:=post) (fun M M p=>p) zO
   pre r1 ht (fun f h' M=>f= .ret (.bool false)∧h'=hC y (t-1) (.int p) (.str c)) [] (fun M=>⟨rfl,rfl⟩)
  rw[←e]at q
  have q:eF (ka G3 (n+1) 29 Bt (rK (gS "_check_parenthesis") 0 [] false) (hC y 0 .unb .unb)) (.ret (.bool false)) (hC y (t-1) (.int p) (.str c)):=⟨d,ok (by kernel_rfl) q⟩
  exact⟨[.r (.str y) [],.l (.ret (.bool false)) (hC y (t-1) (.int p) (.str c))],ok (by kernel_rfl) (ai (Ob (n:=n) h) (ai q (rr (V.bool false) [])))⟩
noncomputable abbrev HT:Ty:= .cons .str (.one .str)
noncomputable def hH(l:List (den HT)):Hp:=[.inst 289 1,.attrs [(nm "_headers",.own 2)],.list HT l]
noncomputable def asc(k:List Nat):Bool:=k.all fun c=>dZ c 128
theorem vq{k:List Nat}(h:asc k=true): ∀c∈k,c<128:=fun c m=>aq (ay.mp h c m)
theorem PA{n:Nat}:gn (C3 (n+1) 181 [.own 0] [.inst 289 1,.attrs []]) .none (hH []):=
 ⟨[],ok (by kernel_rfl) (ai (by decide:0≤bS) (ai (rfl:some (AO.list HT [])=some (AO.list HT [])) (rr V.none (hH []))))⟩
noncomputable def EP(x:List Nat):Bool:=x.any (sE false)
theorem HZ{n:Nat}{x:List Nat}{l:List (den HT)}(h:clean x=true):gn (iI G3 (n+1) (.val (.ref 188)) [.own 0,.str x] [(nm "name",.bool true)] (hH l)) (.str x) (hH l):=
 ⟨[],ok (by kernel_rfl) (ai h (rr (V.str x) (hH l)))⟩
theorem Oa{n:Nat}{x:List Nat}{l:List (den HT)}(h:EP x=false):gn (iI G3 (n+1) (.val (.ref 188)) [.own 0,.str x] [(nm "name",.bool false)] (hH l)) (.str x) (hH l):=
 ⟨[.t,.t,.b false],ok (by kernel_rfl) (ai (rfl:true=true) (ai h (rr (V.str x) (hH l))))⟩
noncomputable def MB:bP:=cZ (b6 (cU (nm "get") (gN (nm "Headers") f6))) 1
noncomputable def Of:Cx:=rK (cU (nm "get") (gN (nm "Headers") f6)) 3 [] false
noncomputable def hG(l:List (den HT))(x:List Nat)(d k v:V):Hp:=[.inst 289 1,.attrs [(nm "_headers",.own 2)],.list HT l,.loc [(nm "self",.own 0),(nm "name",.str x),(nm "default",d),(nm "k",k),(nm "v",v)]]
noncomputable def z5(x:List Nat)(q:den HT):Bool:=q.1.map f7==x
noncomputable def pj(x:List Nat)(l:List (den HT)):Option (den HT):=ej none (fun q M r=>cond (z5 x q) (some q) r) l
noncomputable def OA(f:den HT→V)(o:Option (den HT))(v:V):V:=cD v f o
noncomputable def dV(o:Option (List Nat)):V:=cD .none .str o
theorem GT{n:Nat}{x:List Nat}{l0:List (den HT)}{o:Option (List Nat)}(l:List (den HT))(ha:l.all (fun q=>asc q.1)=true):
  ∃ds,kE (eE G3 n 29 MB Of) (fun hp' p=>hp'[2]? =some (.list HT l0)∧p) 4 3 (l.map (emb HT)) (hG l0 x (dV o) .unb .unb) ds fun f h' M=>f=cD Fl.next (fun q=> .ret (.str q.2)) (pj x l)∧h'=hG l0 x (dV o) (OA (fun q=> .str q.1) (pj x l) .unb) (OA (fun q=> .str q.2) (pj x l) .unb):=by
 induction l with
 |nil=>exact⟨[],rfl,rfl,rfl⟩
 |cons q l ih=>
  obtain⟨k,v⟩:=q
  have h1:(asc k&&l.all fun q=>asc q.1)=true:=ha
  rw[cL]at h1
  refine(ih h1.2).elim fun ds ih=> ?_
  induction z:z5 x (k,v)using ah with
  |true=>
   have e:pj x ((k,v)::l)=some (k,v):=by show cond (z5 x (k,v)) _ _=_;rw[z];rfl
   rw[e]
   exact⟨[.l (.ret (.str v)) (hG l0 x (dV o) (.str k) (.str v))],rfl,⟨[.b true],ok (by kernel_rfl) (ai (vq h1.1) (ai z (rr (Fl.ret (.str v)) (hG l0 x (dV o) (.str k) (.str v)))))⟩,rfl,rfl⟩
  |false=>
   have e:pj x ((k,v)::l)=pj x l:=by show cond (z5 x (k,v)) _ _=_;rw[z];rfl
   rw[e]
   exact⟨.l .next (hG l0 x (dV o) (.str k) (.str v)):: .g [nm "k",nm "v"]::ds,rfl,⟨[.b false],ok (by kernel_rfl) (ai (vq h1.1) (ai z (rr Fl.next (hG l0 x (dV o) (.str k) (.str v)))))⟩,by rcases o with _|_<;>exact ok (by kernel_rfl) ih⟩
structure FF(l:List (den HT))(x:List Nat):Prop where
 all:l.all (fun q=>asc q.1)=true
 asc:asc x=true
 clean:clean (x.map f7)=true
theorem Ph{n:Nat}{x:List Nat}{l:List (den HT)}(o:Option (List Nat))(h:FF l x):eF (ka G3 n 29 MB Of (hG l (x.map f7) (dV o) .unb .unb)) (cD Fl.next (fun q=> .ret (.str q.2)) (pj (x.map f7) l)) (hG l (x.map f7) (dV o) (OA (fun q=> .str q.1) (pj (x.map f7) l) .unb) (OA (fun q=> .str q.2) (pj (x.map f7) l) .unb)):=
 (GT (n:=n) (x:=x.map f7) (l0:=l) (o:=o) l h.all).elim fun ds q=>⟨ds,ok (by kernel_rfl) q⟩
noncomputable def fo(l:List (den HT))(x:List Nat):Option (List Nat):=(pj (x.map f7) l).map (·.2)
theorem Ff{n:Nat}{x:List Nat}{l:List (den HT)}(h:FF l x):gn (C3 (n+2) 236 [.own 0,.str x] (hH l)) (cD V.none V.str (fo l x)) (hH l):=by
 have f:=Ph (n:=n+1) none h
 unfold fo
 induction q:pj (x.map f7) l using aw with
 |none=>
  rw[q]at f
  exact⟨[.r (.str (x.map f7)) (hH l),.l .next (hG l (x.map f7) .none .unb .unb)],ok (by kernel_rfl) (ai (vq h.asc) (ai (HZ (n:=n) (l:=l) h.clean) (ai f (rr V.none (hH l)))))⟩
 |some w=>
  obtain⟨k,v⟩:=w
  rw[q]at f
  exact⟨[.r (.str (x.map f7)) (hH l),.l (.ret (.str v)) (hG l (x.map f7) .none (.str k) (.str v))],ok (by kernel_rfl) (ai (vq h.asc) (ai (HZ (n:=n) (l:=l) h.clean) (ai f (rr (V.str v) (hH l)))))⟩
noncomputable def gP(e:Expr)(Γ:Cx)(n:Nat):Cx:=match e with
 | .ListComp M Δ scope Θ=>u3 Γ scope n ((eS Γ scope.names []).getD [])
 |M=>Γ
noncomputable def fh(x:String)(v:V):AO:= .loc [(nm ".0",.unb),(nm x,v)]
theorem rc{u:Ty}(l:List (den u))(h:Hp):l=l∧h=h:=⟨rfl,rfl⟩
theorem Pz{n:Nat}{l:List (den HT)}(h:(jG l 0 l.length).length≤bS):gn (C3 (n+1) 253 [.own 0] (hH l)) (.lst HT (jG l 0 l.length)) (hH l):=
 ⟨[],ok (by kernel_rfl) (ai h (rr (V.lst HT (jG l 0 l.length)) (hH l)))⟩
noncomputable def wg(l:List (den HT))(x y:List Nat):List (den HT):=cD (l++[(x,y)]) (fun M=>l) (fo l x)
theorem Py{n:Nat}{x y:List Nat}{l:List (den HT)}(h:FF l x)(hx:clean x=true)(hy:fo l x=none→EP y=false)(hb:gj (l++[(x,y)]).length=true):gn (C3 (n+3) 279 [.own 0,.str x,.str y] (hH l)) (.str ((fo l x).getD y)) (hH (wg l x y)):=by
 have c:=Ff (n:=n) h
 unfold wg
 induction q:fo l x using aw with
 |none=>
  rw[q]at c
  exact⟨[.r .none (hH l),.t,.r (.str x) (hH l),.r (.str y) (hH l)],ok (by kernel_rfl) (ai c (ai (HZ (n:=n+1) (l:=l) hx) (ai (Oa (n:=n+1) (l:=l) (hy q)) (ai (gZ hb) (rr (V.str y) (hH (l++[(x,y)])))))))⟩
 |some v=>
  rw[q]at c
  exact⟨[.r (.str v) (hH l),.t],ok (by kernel_rfl) (ai c (rr (V.str v) (hH l)))⟩
noncomputable def sg(c:Nat):List Nat:=[c]
theorem yw{n:Nat}:eQ (n+1) 0=some 0:=by
 unfold eQ seqIndex?
 simp
theorem tC{α:Type}{x d:α}{l:List α}:getD (x::l) 0 d=x:=by
 unfold getD
 rw[b4,yw]
 rfl
theorem Lc{α:Type}{x:α}{l:List α}:(x::l).eraseIdx ((eQ (x::l).length 0).getD 0)=l:=by
 rw[b4,yw]
 rfl
theorem M7{n:Nat}:fy (n+1) 0:=by unfold fy;rw[yw];rfl
noncomputable def hR(t:List Nat):Hp:=[.fn 4 [(nm "left",1)] none,.cell (.own 2),.list .str (t.map sg)]
noncomputable def kJ(t:List Nat):List Nat:=ej [] (fun c M M=>[c]) t
theorem Jd{n:Nat}{t:List Nat}:gn (iI G3 (n+1) (.own 0) [.int 1] [] (hR t)) (.str (kJ t)) (hR t.tail):=by
 induction t using aO with
 |nil=>exact⟨[.t],ok (by kernel_rfl) (rr (V.str []) (hR []))⟩
 |cons c t=>exact⟨[.t],ok (by kernel_rfl) (ai (M7:fy ((t.map sg).length+1) 0) (ai (congrArg V.str tC:V.str (getD (sg c::t.map sg) 0 [])=V.str [c]) (congrArg (fun l=>([.fn 4 [(nm "left",1)] none,.cell (.own 2),.list .str l]:Hp)) (Lc:(sg c::t.map sg).eraseIdx ((eQ (sg c::t.map sg).length 0).getD 0)=t.map sg))))⟩
structure dS where
 line:Int
 text:List Nat
 ws:List Nat
 push:List (List Nat)
noncomputable def hX(s:dS)(r:List AO):Hp:= .inst 139 1:: .attrs [(nm "lineno",.int s.line),(nm "instream",.own 2),(nm "whitespace",.str s.ws),(nm "pushback",.own 7)]:: .fn 3 [] (some 3):: .attrs [(nm "read",.own 4)]:: .fn 4 [(nm "left",5)] none:: .cell (.own 6):: .list .str (s.text.map sg):: .list .str s.push::r
noncomputable def G6(x:List Nat):Bool:=x==[10]
noncomputable def dS.rd(s:dS):dS:=⟨cond (G6 (kJ s.text)) (s.line+1) s.line,s.text.tail,s.ws,s.push⟩
theorem L3{n:Nat}{s:dS}:gn (C3 (n+2) 122 [.own 0] (hX s [])) (.str (kJ s.text)) (hX s.rd []):=by
 obtain⟨i,t,ws,k⟩:=s
 unfold dS.rd
 induction q:G6 (kJ t)using ah with
 |true=>exact⟨[.r (.str (kJ t)) (hR t.tail),.b true],ok (by kernel_rfl) (ai (Jd (n:=n) (t:=t)) (ai q (rr (V.str (kJ t)) (hX ⟨i+1,t.tail,ws,k⟩ []))))⟩
 |false=>exact⟨[.r (.str (kJ t)) (hR t.tail),.b false],ok (by kernel_rfl) (ai (Jd (n:=n) (t:=t)) (ai q (rr (V.str (kJ t)) (hX ⟨i,t.tail,ws,k⟩ []))))⟩
noncomputable def OM:List Nat:=[10,9,13,32]
theorem QC{n:Nat}{t:List Nat}:gn (C3 (n+1) 115 [.own 0,.own 2] [.inst 139 1,.attrs [],.fn 3 [] (some 3),.attrs [(nm "read",.own 4)],.fn 4 [(nm "left",5)] none,.cell (.own 6),.list .str (t.map sg)]) .none (hX ⟨1,t,OM,[]⟩ []):=
 ⟨[],ok (by kernel_rfl) (ai (by decide:0≤bS) (rr V.none (hX ⟨1,t,OM,[]⟩ [])))⟩
noncomputable def P7:eB:=cU (nm "get_token") (gN (nm "_netrclex") f6)
noncomputable def Cc:Cx:=rK P7 8 [] false
noncomputable def Qh(o:Option (List Nat)):V:=cD .unb .str o
noncomputable def hT(s:dS)(tok:List Nat)(ch:Option (List Nat)):Hp:=hX s [.loc [(nm "self",.own 0),(nm "token",.str tok),(nm "fiter",.own 9),(nm "ch",Qh ch)],.calls (.meth 122 (.own 0)) (.str []) false]
noncomputable def Br:bP:=cZ (b6 P7) 3
noncomputable def sQ:bP:=cZ (bT (cZ (bT Br true) 1) true) 0
noncomputable def sW:bP:=cZ (bT (cZ (bT Br true) 1) false) 2
noncomputable def kG(c:Nat):Bool:=([c]:List Nat)==[92]
theorem jb{n k c:Nat}{t:List Nat}{turn:V→Hp→Ds→KF→Prop}{s:dS}{tok:List Nat}{ch:Option (List Nat)}{f:Fl}{hp1:Hp}{d:Ds}{K:KF}(e:s.text=c::t)(h:eF (turn (.str [c]) (hT s.rd tok ch)) f hp1)
  (h2:pY 10 8 K (fun hp ds=>kn (iI G3 (n+2)) turn 10 8 9 k hp ds K) f hp1 d):kn (iI G3 (n+2)) turn 10 8 9 (k+1) (hT s tok ch) (.r (.str [c]) (hX s.rd []):: .t:: .l f hp1::d) K:=by
 obtain⟨i,x,ws,p⟩:=s
 obtain rfl:=(show x=c::t from e)
 exact ok (by kernel_rfl) (ai (L3 (n:=n) (s:=⟨i,c::t,ws,p⟩)) (ai h h2))
noncomputable def hE(s:dS)(tok:List Nat)(ch:Option (List Nat)):Hp:=hX s [.loc [(nm "self",.own 0),(nm "token",.str tok),(nm "fiter",.own 9),(nm "ch",Qh ch)],.calls .none .none true]
theorem th{n k:Nat}{turn:V→Hp→Ds→KF→Prop}{s:dS}{tok:List Nat}{ch:Option (List Nat)}(e:s.text=[]):kn (iI G3 (n+2)) turn 10 8 9 (k+1) (hT s tok ch) [.r (.str []) (hX s []),.t] fun f h' M=>f= .next∧h'=hE s tok ch:=by
 obtain⟨i,x,ws,p⟩:=s
 obtain rfl:=(show x=[]from e)
 exact ok (by kernel_rfl) (ai (L3 (n:=n) (s:=⟨i,[],ws,p⟩)) (rr Fl.next (hE ⟨i,[],ws,p⟩ tok ch)))
noncomputable abbrev pw:=List Nat×dS×Option Nat
noncomputable def gE(e:Nat→Bool)(k:Nat):dS→List Nat→Option pw:=Nat.rec (motive:=fun M=>dS→List Nat→Option pw) (fun M M=>none) (fun M r s tok=>ej (some (tok,s,none)) (fun c M M=>cond (e c) (some (tok,s.rd,some c)) (cond (kG c) (cond (gj (tok++kJ s.rd.text).length) (r s.rd.rd (tok++kJ s.rd.text)) none) (cond (gj (tok++[c]).length) (r s.rd (tok++[c])) none))) s.text) k
def Ck(v:pw)(f:Fl)(hp:Hp):Prop:=cD (f= .next∧∃ch,hp=hE v.2.1 v.1 ch) (fun c=>f= .ret (.str v.1)∧hp=hT v.2.1 v.1 (some [c])) v.2.2
structure vE(n:Nat)(S:bP)(ws:List Nat)(e:Nat→Bool):Prop where
 fin: ∀s tok ch c,s.ws=ws→e c=true→eF (eE G3 (n+2) 27 S Cc (.str [c]) (hT s tok ch)) (.ret (.str tok)) (hT s tok (some [c]))
 bs: ∀s tok ch c,s.ws=ws→e c=false→kG c=true→gj (tok++kJ s.text).length=true→eF (eE G3 (n+2) 27 S Cc (.str [c]) (hT s tok ch)) .next (hT s.rd (tok++kJ s.text) (some (kJ s.text)))
 pl: ∀s tok ch c,s.ws=ws→e c=false→kG c=false→gj (tok++[c]).length=true→eF (eE G3 (n+2) 27 S Cc (.str [c]) (hT s tok ch)) .next (hT s (tok++[c]) (some [c]))
theorem Qx{n:Nat}{ws:List Nat}:vE n sQ ws fun c=>f8 [c] where
 fin s tok ch c hw h:=⟨[.b true],ok (by kernel_rfl) (ai h (rr (Fl.ret (.str tok)) (hT s tok (some [c]))))⟩
 bs s tok ch c hw h h2 h3:=⟨[.b false,.b true,.r (.str (kJ s.text)) (hX s.rd [])],ok (by kernel_rfl) (ai h (ai h2 (ai (L3 (n:=n) (s:=s)) (ai (gZ h3) (rr Fl.next (hT s.rd (tok++kJ s.text) (some (kJ s.text))))))))⟩
 pl s tok ch c hw h h2 h3:=⟨[.b false,.b false],ok (by kernel_rfl) (ai h (ai h2 (ai (gZ h3) (rr Fl.next (hT s (tok++[c]) (some [c]))))))⟩
theorem Qw{n:Nat}{ws:List Nat}:vE n sW ws fun c=>ws.contains c where
 fin s tok ch c hw h:=⟨[.b true],ok (by kernel_rfl) (ai (hw▸h:s.ws.contains c=true) (rr (Fl.ret (.str tok)) (hT s tok (some [c]))))⟩
 bs s tok ch c hw h h2 h3:=⟨[.b false,.b true,.r (.str (kJ s.text)) (hX s.rd [])],ok (by kernel_rfl) (ai (hw▸h:s.ws.contains c=false) (ai h2 (ai (L3 (n:=n) (s:=s)) (ai (gZ h3) (rr Fl.next (hT s.rd (tok++kJ s.text) (some (kJ s.text))))))))⟩
 pl s tok ch c hw h h2 h3:=⟨[.b false,.b false],ok (by kernel_rfl) (ai (hw▸h:s.ws.contains c=false) (ai h2 (ai (gZ h3) (rr Fl.next (hT s (tok++[c]) (some [c]))))))⟩
theorem G8{n:Nat}{S:bP}{ws:List Nat}{e:Nat→Bool}(I:vE n S ws e){k:Nat}: ∀{s:dS} {tok:List Nat} {ch:Option (List Nat)} {v:pw},s.ws=ws→gE e k s tok=some v→
  ∃d f hp1,Ck v f hp1∧kn (iI G3 (n+2)) (eE G3 (n+2) 27 S Cc) 10 8 9 k (hT s tok ch) d fun f' h' M=>f'=f∧h'=hp1:=by
 induction k with
 |zero=>exact fun M h=>nomatch h
 |succ k ih=>
  intro s tok ch v hw h
  have h:(ej (some (tok,s,none)) (fun c M M=>cond (e c) (some (tok,s.rd,some c)) (cond (kG c) (cond (gj (tok++kJ s.rd.text).length) (gE e k s.rd.rd (tok++kJ s.rd.text)) none) (cond (gj (tok++[c]).length) (gE e k s.rd (tok++[c])) none))) s.text:Option pw)=some v:=h
  induction et:s.text using aO with
  |nil=>
   rw[et]at h
   obtain rfl:=af h
   exact⟨_,.next,hE s tok ch,⟨rfl,ch,rfl⟩,th et⟩
  |cons c t=>
   rw[et]at h
   have h:cond (e c) (some (tok,s.rd,some c)) (cond (kG c) (cond (gj (tok++kJ s.rd.text).length) (gE e k s.rd.rd (tok++kJ s.rd.text)) none) (cond (gj (tok++[c]).length) (gE e k s.rd (tok++[c])) none))=some v:=h
   rcases a:e c with _|_<;>rw[a]at h
   ·rcases b:kG c with _|_<;>rw[b]at h
    ·obtain⟨h1,h⟩:=cs h
     obtain⟨d,f,hp1,z,q⟩:=ih (s:=s.rd) (ch:=some [c]) hw h
     refine⟨_,f,hp1,z,jb (f:= .next) (d:= .g []::d) et (I.pl s.rd tok ch c hw a b h1) ?_⟩
     exact ok (by kernel_rfl) q
    ·obtain⟨h1,h⟩:=cs h
     obtain⟨d,f,hp1,z,q⟩:=ih (s:=s.rd.rd) (ch:=some (kJ s.rd.text)) hw h
     refine⟨_,f,hp1,z,jb (f:= .next) (d:= .g []::d) et (I.bs s.rd tok ch c hw a b h1) ?_⟩
     exact ok (by kernel_rfl) q
   ·obtain rfl:=af h
    exact⟨_,.ret (.str tok),hT s.rd tok (some [c]),⟨rfl,rfl⟩,jb (d:=[]) et (I.fin s.rd tok ch c hw a) ⟨rfl,rfl⟩⟩
theorem D6{n k:Nat}{S:bP}{ws:List Nat}{e:Nat→Bool}(I:vE n S ws e)(hS: ∀(s:dS) tok y d (K:KF),kn (iI G3 (n+2)) (eE G3 (n+2) 27 S Cc) 10 8 9 k (hT s tok (some y)) d K→ka G3 (n+2) 27 S Cc (hT s tok (some y)) (.k k::d) K){s:dS}{tok y:List Nat}{v:pw}
  (hw:s.ws=ws) (h:gE e k s tok=some v): ∃f hp1,Ck v f hp1∧eF (ka G3 (n+2) 27 S Cc (hT s tok (some y))) f hp1:=
 (G8 I (ch:=some y) hw h).elim fun d q=>q.elim fun f q=>q.elim fun hp1 q=>⟨f,hp1,q.1,.k k::d,hS _ _ _ _ _ q.2⟩
theorem Pd{n k:Nat}{s:dS}{tok y:List Nat}{v:pw}(h:gE (fun c=>f8 [c]) k s tok=some v): ∃f hp1,Ck v f hp1∧eF (ka G3 (n+2) 27 sQ Cc (hT s tok (some y))) f hp1:=
 D6 (Qx (n:=n)) (fun s tok y d K h=>ok (by kernel_rfl) h) rfl h
theorem NA{n k:Nat}{s:dS}{tok y:List Nat}{v:pw}(h:gE (fun c=>s.ws.contains c) k s tok=some v): ∃f hp1,Ck v f hp1∧eF (ka G3 (n+2) 27 sW Cc (hT s tok (some y))) f hp1:=
 D6 (Qw (n:=n)) (fun s tok y d K h=>ok (by kernel_rfl) h) rfl h
noncomputable def nO(k:Nat)(s:dS)(c:Nat)(r:Option (List Nat×dS)):Option (List Nat×dS):=
 cond (s.ws.contains c) r (cond (f8 [c]) ((gE (fun c=>f8 [c]) k s []).map fun v=>(v.1,v.2.1))
  (cond (kG c) (cond (gj (kJ s.text).length) ((gE (fun c=>s.ws.contains c) k s.rd (kJ s.text)).map fun v=>(v.1,v.2.1)) none) ((gE (fun c=>s.ws.contains c) k s [c]).map fun v=>(v.1,v.2.1))))
noncomputable def kz(k:Nat):dS→Option (List Nat×dS):=Nat.rec (motive:=fun M=>dS→Option (List Nat×dS)) (fun M=>none) (fun k r s=>ej (some ([],s)) (fun c M M=>nO k s.rd c (r s.rd)) s.text) k
def Fx(tok:List Nat)(s:dS)(f:Fl)(hp:Hp):Prop:=(f= .ret (.str tok)∧∃ch,hp=hT s tok ch)∨(f= .next∧∃ch,hp=hE s tok ch)
theorem Ck.word{v:pw}{f:Fl}{hp:Hp}(h:Ck v f hp):Fx v.1 v.2.1 f hp:=by
 obtain⟨a,b,o⟩:=v
 induction o using aw with
 |none=>exact .inr h
 |some c=>exact .inl ⟨h.1,_,h.2⟩
theorem Dw{n k c:Nat}{s s':dS}{ch:Option (List Nat)}{tok:List Nat}(hc:s.ws.contains c=false)(h:nO k s c none=some (tok,s')):k≠0∧∃f hp1,Fx tok s' f hp1∧eF (eE G3 (n+2) 29 Br Cc (.str [c]) (hT s [] ch)) f hp1:=by
 unfold nO at h
 rw[hc]at h
 have k0: ∀{e s tok v},gE e k s tok=some v→k≠0:=fun q z=>by subst z;exact nomatch q
 cases a:f8 [c]<;>rw[a]at h
 ·cases b:kG c<;>rw[b]at h
  ·obtain⟨v,h1,h2⟩:=bG.mp h
   cases h2
   obtain⟨f,hp1,z,q⟩:=NA (n:=n) (y:=[c]) h1
   refine⟨k0 h1,f,hp1,z.word,?_⟩
   rcases z.word with⟨rfl,ch,rfl⟩|⟨rfl,ch,rfl⟩
   ·exact⟨[.b false,.b false,.b false,.l (.ret (.str v.1)) (hT v.2.1 v.1 ch)],ok (by kernel_rfl) (ai hc (ai a (ai b (ai (by decide:1≤bS) (ai q (rr (Fl.ret (.str v.1)) (hT v.2.1 v.1 ch)))))))⟩
   ·exact⟨[.b false,.b false,.b false,.l .next (hE v.2.1 v.1 ch)],ok (by kernel_rfl) (ai hc (ai a (ai b (ai (by decide:1≤bS) (ai q (rr Fl.next (hE v.2.1 v.1 ch)))))))⟩
  ·obtain⟨h0,h⟩:=cs h
   refine kP h fun v h1 h2=> ?_
   cases h2
   obtain⟨f,hp1,z,q⟩:=NA (n:=n) (s:=s.rd) (y:=kJ s.text) h1
   refine⟨k0 h1,f,hp1,z.word,?_⟩
   rcases z.word with⟨rfl,ch,rfl⟩|⟨rfl,ch,rfl⟩
   ·exact⟨[.b false,.b false,.b true,.r (.str (kJ s.text)) (hX s.rd []),.l (.ret (.str v.1)) (hT v.2.1 v.1 ch)],ok (by kernel_rfl) (ai hc (ai a (ai b (ai (L3 (n:=n) (s:=s)) (ai (gZ h0) (ai q (rr (Fl.ret (.str v.1)) (hT v.2.1 v.1 ch))))))))⟩
   ·exact⟨[.b false,.b false,.b true,.r (.str (kJ s.text)) (hX s.rd []),.l .next (hE v.2.1 v.1 ch)],ok (by kernel_rfl) (ai hc (ai a (ai b (ai (L3 (n:=n) (s:=s)) (ai (gZ h0) (ai q (rr Fl.next (hE v.2.1 v.1 ch))))))))⟩
 ·obtain⟨v,h1,h2⟩:=bG.mp h
  cases h2
  obtain⟨f,hp1,z,q⟩:=Pd (n:=n) (y:=[c]) h1
  refine⟨k0 h1,f,hp1,z.word,?_⟩
  rcases z.word with⟨rfl,ch,rfl⟩|⟨rfl,ch,rfl⟩
  ·exact⟨[.b false,.b true,.l (.ret (.str v.1)) (hT v.2.1 v.1 ch)],ok (by kernel_rfl) (ai hc (ai a (ai q (rr (Fl.ret (.str v.1)) (hT v.2.1 v.1 ch)))))⟩
  ·exact⟨[.b false,.b true,.l .next (hE v.2.1 v.1 ch)],ok (by kernel_rfl) (ai hc (ai a (ai q (rr Fl.next (hE v.2.1 v.1 ch)))))⟩
theorem Dx{n k:Nat}: ∀{s s':dS} {tok:List Nat} {ch:Option (List Nat)},kz k s=some (tok,s')→∃d f hp1,kn (iI G3 (n+2)) (eE G3 (n+2) 29 Br Cc) 10 8 9 k (hT s [] ch) d (fun f' h' M=>f'=f∧h'=hp1)∧Fx tok s' f hp1:=by
 induction k with
 |zero=>exact fun h=>nomatch h
 |succ k ih=>
  intro s s' tok ch h
  have h:(ej (some ([],s)) (fun c M M=>nO k s.rd c (kz k s.rd)) s.text:Option (List Nat×dS))=some (tok,s'):=h
  induction et:s.text using aO with
  |nil=>
   rw[et]at h
   cases h
   exact⟨_,.next,hE s [] ch,th et,.inr ⟨rfl,ch,rfl⟩⟩
  |cons c t=>
   rw[et]at h
   induction a:s.ws.contains c using ah with
   |true=>
    have h:cond (s.ws.contains c) (kz k s.rd) _=some (tok,s'):=h
    rw[a]at h
    obtain⟨d,f,hp1,q,r⟩:=ih (s:=s.rd) (ch:=some [c]) h
    refine⟨_,f,hp1,jb (f:= .cont) (d:= .g []::d) et (⟨[.b true],ok (by kernel_rfl) (ai a (rr Fl.cont (hT s.rd [] (some [c]))))⟩:eF (eE G3 (n+2) 29 Br Cc (.str [c]) (hT s.rd [] ch)) .cont (hT s.rd [] (some [c]))) ?_,r⟩
    exact ok (by kernel_rfl) q
   |false=>
    have h:nO k s.rd c none=some (tok,s'):=by
     have h:cond (s.ws.contains c) _ _=some (tok,s'):=h
     show cond (s.ws.contains c) _ _=_
     rw[a]at h ⊢
     exact h
    obtain⟨k0,f,hp1,w,q⟩:=Dw (n:=n) (ch:=ch) (show s.rd.ws.contains c=false from a) h
    refine(cb k0).elim fun k z1z=> ?_
    obtain rfl:=z1z
    refine⟨_,f,hp1,jb (d:=[]) et q ?_,w⟩
    rcases w with⟨rfl,ch,rfl⟩|⟨rfl,ch,rfl⟩
    ·exact⟨rfl,rfl⟩
    ·exact ok (by kernel_rfl) (rr Fl.next (hE s' tok ch))
theorem Pq{n k:Nat}{s s':dS}{tok:List Nat}(hp:s.push=[])(h:kz k s=some (tok,s')):gn (C3 (n+3) 129 [.own 0] (hX s [])) (.str tok) (hX s' []):=by
 obtain⟨d,f,hp1,q,r⟩:=Dx (n:=n) (ch:=none) h
 have q:eF (ka G3 (n+2) 29 Br Cc (hT s [] none)) f hp1:=⟨.k k::d,ok (by kernel_rfl) q⟩
 obtain⟨i,x,ws,p⟩:=s
 obtain rfl:=(show p=[]from hp)
 rcases r with⟨rfl,ch,rfl⟩|⟨rfl,ch,rfl⟩
 ·exact⟨[.t,.l (.ret (.str tok)) (hT s' tok ch)],by exact ok (by kernel_rfl) (ai q (rr (V.str tok) (hX s' [])))⟩
 ·exact⟨[.t,.l .next (hE s' tok ch)],by exact ok (by kernel_rfl) (ai q (rr (V.str tok) (hX s' [])))⟩
noncomputable def jP:(t:Ty)→den t→Bool
 | .int,M=>true
 | .str,s=>s.all fun c=>decide (c<0x110000)
 | .bool,M=>true
 | .one a,d=>jP a d
 | .cons a b,d=>cond (jP a d.1) (jP b d.2) false
 | .list t,l=>l.all (jP t)
 | .alt a b,d=>Sum.elim (jP a) (jP b) d
noncomputable def Cy:Ty→Nat
 | .one a=>Cy a+1
 | .cons a b=>Cy a+Cy b+1
 | .list t=>Cy t+1
 | .alt a b=>Cy a+Cy b
 |M=>0
structure On(x:PyData×List PyData)(n:Nat):Prop where
 c:x.1.canLay0=true
 cs:PyData.canLayAll0 x.2=true
 d:x.1.depth≤n
 ds:PyData.depthAll x.2≤n
theorem DO{α:Type}{f:α→PyData}{n:Nat}{l:List α}(h: ∀x∈l,(f x).canLay0=true∧(f x).depth≤n):PyData.canLayAll0 (l.map f)=true∧PyData.depthAll (l.map f)≤n:=by
 induction l with
 |nil=>exact⟨rfl,a9 _⟩
 |cons x l ih=>
  have a:=h x (.head _)
  have b:=ih fun y m=>h y (.tail _ m)
  exact⟨aM.mpr ⟨a.1,b.1⟩,Nat.max_le.mpr ⟨a.2,b.2⟩⟩
theorem EL(t:Ty): ∀{d:den t},jP t d=true→On (kH t d) (Cy t):=by
 induction t with
 |int=>exact fun M=>⟨rfl,rfl,av _,av _⟩
 |str=>exact fun{d} h=>⟨(List.all_toArray ..).trans h,rfl,av _,av _⟩
 |bool=>exact fun M=>⟨rfl,rfl,av _,av _⟩
 |one a ih=>
  intro d h
  have k:=ih (d:=d) h
  have z:PyData.depthAll [(kH a d).1]≤Cy a:=Nat.max_le.mpr ⟨k.d,a9 _⟩
  exact⟨aM.mpr ⟨k.c,rfl⟩,aM.mpr ⟨k.c,rfl⟩,cM z,Nat.le_succ_of_le z⟩
 |cons a b ia ib=>
  intro d h
  have h:=ct h
  have k:=ia (d:=d.1) h.1
  have m:=ib (d:=d.2) h.2
  have c:PyData.canLayAll0 ((kH a d.1).1::(kH b d.2).2)=true:=aM.mpr ⟨k.c,m.cs⟩
  have z:PyData.depthAll ((kH a d.1).1::(kH b d.2).2)≤Cy a+Cy b:=Nat.max_le.mpr ⟨ad k.d (aG ..),ad m.ds (c9 ..)⟩
  exact⟨c,c,cM z,Nat.le_succ_of_le z⟩
 |list t ih=>
  intro d h
  have h:d.all (jP t)=true:=h
  have k:=DO (f:=fun x=>(kH t x).1) (n:=Cy t) fun x m=>have k:=ih (ay.mp h x m);⟨k.c,k.d⟩
  exact⟨k.1,rfl,cM k.2,a9 _⟩
 |alt a b ia ib=>
  intro d h
  cases d with
  |inl d=>have k:=ia (d:=d) h;exact⟨k.c,k.cs,ad k.d (aG ..),ad k.ds (aG ..)⟩
  |inr d=>have k:=ib (d:=d) h;exact⟨k.c,k.cs,ad k.d (c9 ..),ad k.ds (c9 ..)⟩
theorem gA{t:Ty}{d:den t}(h:jP t d=true)(hd:bz (Cy t) 64=true):bc (dat t d)=true:=
 have k:=EL t h
 aM.mpr ⟨k.c,decide_eq_true (ad k.d (aq hd))⟩
theorem io{t:Ty}{d:den t}(h:jP t d=true):PyData.eqv (dat t d) (dat t d)=true:=SeqAt.eqv_refl _ (EL t h).c
theorem wb{n:Nat}:bZ 0 (n:Int) 1=(n:Int):=by
 unfold bZ
 simp
 lia
theorem Ka{n:Nat}:fk 0 (n:Int) 1=n:=by
 unfold fk
 rw[wb,Int.toNat_natCast]
theorem Bn{n:Nat}(h:n≤1000000):aY 0 (n:Int) 1=true:=by
 unfold aY
 rw[wb]
 unfold Builtin.Range.rangeFitsLong
 simp
 omega
noncomputable def Na(n:Nat):List Int:=eR 0 1 n
theorem ta(n:Nat): ∀a:Int,eR a 1 n=(cX n).map fun k:Nat=>a+(k:Int):=by
 induction n with
 |zero=>exact fun M=>rfl
 |succ n ih=>
  intro a
  rw[List.range_succ_eq_map,List.map_cons,List.map_map,show eR a 1 (n+1)=a::eR (a+1) 1 n from rfl,ih]
  congr 1
  ·exact(Int.add_zero a).symm
  ·apply List.map_congr_left
   intro k _
   show a+1+(k:Int)=a+((k+1:Nat):Int)
   push_cast
   lia
theorem Ao{n:Nat}{k:Int}(h:k∈Na n): ∃j,j<n∧k=(j:Int):=by
 unfold Na at h
 rw[ta]at h
 obtain⟨j,hj,rfl⟩:=aP.mp h
 exact⟨j,cI.mp hj,Int.zero_add _⟩
theorem nT{n j:Nat}(h:j<n):eQ n (j:Int)=some j:=by
 show(if(0≤(if(j:Int)<0 then(j:Int)+n else j)&&(if(j:Int)<0 then(j:Int)+n else j)<(n:Int))then some (if(j:Int)<0 then(j:Int)+n else j).toNat else none)=some j
 rw[if_neg (dh.mpr (aK j)),decide_eq_true (aK j),decide_eq_true (bR.mpr h),Int.toNat_natCast]
 rfl
theorem iS{n j:Nat}(h:j<n):fy n (j:Int):=by unfold fy;rw[nT h];rfl
theorem mz{n:Nat}(h:n≤1000000):aH (n:Int):=aj h (by decide)
noncomputable def iO(p:Int):List Int:=eR 0 1 (fk 0 p 1)
section
variable{σ α:Type}{m fr:Nat}{names:List Str}{e:α→V}
def Qp(S:σ→α→σ→Prop)(l:List α)(s t:σ):Prop:=ej (motive:=fun M=>σ→Prop) (fun s=>s=t) (fun x M r s=>∃s1,S s x s1∧r s1) l s
end
section
variable{σ α:Type}{G:fS}{n d m fr:Nat}{names:List Str}{e:α→V}{Γ:Cx}{hp hp':Hp}
def De{u:Ty}(S:σ→α→σ→List (den u)→Prop)(l:List α)(s t:σ)(o:List (den u)):Prop:=ej (motive:=fun M=>σ→List (den u)→Prop) (fun s o=>s=t∧o=[]) (fun x M r s o=>∃s1 a b,S s x s1 a∧r s1 b∧o=a++b) l s o
theorem yR{u:Ty}{turn:V→Hp→Ds→(List (den u)→Hp→Ds→Prop)→Prop}{okf:Hp→Prop→Prop}{S:σ→α→σ→List (den u)→Prop}{H:σ→Hp}(hok: ∀hp s p,forget fr names hp=H s→p→okf hp p)
  (h: ∀s x s1 a,S s x s1 a→∃hp1,rF u (turn (e x) (H s)) a hp1∧forget fr names hp1=H s1) (l:List α): ∀hp {s t o},forget fr names hp=H s→De S l s t o→∀(K:List (den u)→Hp→Ds→Prop) d,K o (H t) d→∃d',iC u turn okf fr names (l.map e) hp d' K:=by
 induction l with
 |nil=>exact fun hp s t o eh r K d k=>⟨d,hok hp s _ eh (eh.symm▸(show s=t from r.1)▸(show o=[]from r.2)▸k)⟩
 |cons x l ih=>
  intro hp s t o eh r K d k
  obtain⟨s1,a,b,h1,h2,rfl⟩:=r
  obtain⟨hp1,hr,hw⟩:=h s x s1 a h1
  refine(ih hp1 hw h2 (fun l hp ds=>K (a++l) hp ds) d k).elim fun d' q=> ?_
  refine⟨.c u a hp1::d',hok hp s _ eh ?_⟩
  show fN (ma u u a) fun l'=>rF u (turn (e x) (forget fr names hp)) l' hp1∧_
  rw[mQ,eh]
  exact⟨hr,q⟩
theorem B3{u:Ty}{own:Bool}{e0:Expr}{Γc:Cx}{okf:Hp→Prop→Prop}{hp1:Hp}{S:σ→α→σ→List (den u)→Prop}{H:σ→Hp}{l:List α}{v:V}{s t:σ}{o:List (den u)}
  (h0: ∀ds (K:KV),cond (bz (l.map e).length 1000000) (iC u (oW G n d 1000000 u e0 Γc) okf hp.length names (l.map e) hp1 ds (kr hp.length own u K)) False→eH G n d e0 Γ hp ds K)
  (hz:l.length≤1000000) (hok: ∀hp2 s p,forget hp.length names hp2=H s→p→okf hp2 p) (hH:forget hp.length names hp1=H s) (hi: ∀s x s1 a,S s x s1 a→∃hp1,rF u (oW G n d 1000000 u e0 Γc (e x) (H s)) a hp1∧forget hp.length names hp1=H s1)
  (r:De S l s t o) (hk: ∀(K:KV) ds,K v hp' ds→kr hp.length own u K o (H t) ds):gn (eH G n d e0 Γ hp) v hp':=by
 refine(yR (fr:=hp.length) hok hi l hp1 hH r (kr hp.length own u fun v' h' M=>v'=v∧h'=hp') [] (hk _ _ ⟨rfl,rfl⟩)).elim fun d' q=> ?_
 exact⟨d',h0 d' _ (uZ (by rw[aE];exact a8 hz) q)⟩
end
noncomputable def wn:bP:=cZ (b6 (gS "_formatparam")) 0
noncomputable def sS:bP:=cZ (bT wn true) 0
noncomputable def Cf:Cx:=rK (gS "_formatparam") 0 [] false
noncomputable def hF(p v:List Nat)(q:Int):Hp:=[.loc [(nm "param",.str p),(nm "value",.str v),(nm "quote",.int q)]]
noncomputable def iH(v:List Nat):List Nat:=iP 34 [92,34] (iP 92 [92,92] v)
noncomputable def IA(v:List Nat):Bool:=v.any (sE true)
def M9(n d:Nat)(s:bP)(Γ:Cx)(hp:Hp)(ds:Ds)(K:KF):Prop:=zC G3 (fb G3 n d) Γ hp ds K s
def Ed(a l t2 o:Expr)(op:CmpOp)(i:Int)(y:Str)(rest els els2:List bP)(s:bP):Prop:=s= .If (.BoolOp .And [a,.Compare l [op] [.Constant (.int i) 0 ⟨172,42,172,43⟩] ⟨172,29,172,43⟩] ⟨172,7,172,43⟩) [.If t2 (.Assign [.Name y ⟨174,12,174,17⟩] (.Call (.Attribute (.Call (.Attribute o wH ⟨174,20,174,33⟩) [.Constant (.str ⟨#[92]⟩) 0 ⟨174,34,174,38⟩,.Constant (.str ⟨([92,92]:List Nat).toArray⟩) 0 ⟨174,40,174,46⟩] [] ⟨174,20,174,47⟩) wH ⟨174,20,174,55⟩) [.Constant (.str ⟨#[34]⟩) 0 ⟨174,56,174,59⟩,.Constant (.str ⟨([92,34]:List Nat).toArray⟩) 0 ⟨174,61,174,66⟩] [] ⟨174,20,174,67⟩) ⟨174,12,174,67⟩::rest) els2 ⟨173,8,177,43⟩] els ⟨172,4,179,20⟩
theorem ug:Ed (pH (cV wn) [0]) (pH (cV wn) [1,0]) (cV sS) (.Name (nm "value") ⟨174,20,174,25⟩) .Gt 0 (nm "value") [cZ (bT sS true) 1] (bT wn false) (bT sS false) wn:=by unfold Ed;kernel_rfl
theorem Ea{n d:Nat}{a l t2 o:Expr}{op:CmpOp}{i:Int}{y:Str}{rest els els2:List bP}{s:bP}{Γ:Cx}{hp:Hp}{ds:Ds}{K:KF}(e:Ed a l t2 o op i y rest els els2 s)(hs:gf o=true)
  (h:(fb G3 n d).ts a Γ hp ds fun c hp ds=>c=true∧(fb G3 n d).ev l Γ hp ds fun v hp ds=>E1 op v (.int i) hp fun c=>c=true∧(fb G3 n d).ts t2 Γ hp ds fun c hp ds=>(c=true∧(fb G3 n d).ev o Γ hp ds fun v hp ds=>gU v fun x=>x.length≤1000∧eM Γ y (.str (iP 34 [92,34] (iP 92 [92,92] x))) hp fun hp=>bf (fb G3 n d) rest Γ hp ds K)∨(c=false∧bf (fb G3 n d) els2 Γ hp ds K)):M9 n d s Γ hp ds K:=by
 unfold M9
 rw[show s=_ from e]
 refine zC.mk _ _ _ _ _ _ _ _ _ _ _ _ _ _ _ _ _ _ _ _ _ _ _ _ _ _ _ _ _ _ _ _ _ _ hs rfl rfl ?_ ?_ ?_ ?_ h
 all_goals decide
abbrev Qj(n:Nat)(Γ:Cx)(hp:Hp)(f:Fl)(h1:Hp)(b:Bool)(l:List bP):Prop:=b=false∧bf (fb G3 n 29) l Γ hp [] fun f' h' M=>f'=f∧h'=h1
abbrev PO(n:Nat)(Γ:Cx)(hp:Hp)(f:Fl)(h1:Hp):Prop:=(fb G3 n 29).ev (.Name (nm "value") ⟨174,20,174,25⟩) Γ hp [] fun v hp ds=>gU v fun x=>x.length≤1000∧eM Γ (nm "value") (.str (iP 34 [92,34] (iP 92 [92,92] x))) hp fun hp=>bf (fb G3 n 29) [cZ (bT sS true) 1] Γ hp ds fun f' h' M=>f'=f∧h'=h1
noncomputable def jj(p v:List Nat):List Nat:=[]++p++[61,34]++iH v++[34]
noncomputable def n9(p v:List Nat):List Nat:=[]++p++[61]++v
structure zK(p v:List Nat):Prop where
 v0:decide ((v.length:Int)>0)=true
 l:v.length≤1000
 q:(jj p v).length≤bS
 r:(n9 p v).length≤bS
theorem zK.b{p v:List Nat}(h:zK p v):(([]:List Nat)++p).length≤bS∧([]++p++[61,34]).length≤bS∧([]++p++[61,34]++iH v).length≤bS:=by
 have h:=h.q
 unfold jj at h
 rw[ak]at h
 have h3:=ad (aG _ _) h
 refine⟨?_,?_,h3⟩
 ·rw[ak,ak]at h3
  exact ad (ad (aG _ _) (aG _ _)) h3
 ·rw[ak]at h3
  exact ad (aG _ _) h3
theorem NM{n:Nat}{p v:List Nat}{q:Int}(h:zK p v)(hq:(q !=0)=true):eF (M9 n 29 wn Cf (hF p v q)) (.ret (.str (jj p v))) (hF p (iH v) q):=by
 have g:(true=true∧v.length≤1000∧([]++p).length≤bS∧([]++p++[61,34]).length≤bS∧([]++p++[61,34]++iH v).length≤bS∧(jj p v).length≤bS∧Fl.ret (.str (jj p v))=Fl.ret (.str (jj p v))∧hF p (iH v) q=hF p (iH v) q)∨Qj n Cf (hF p v q) (.ret (.str (jj p v))) (hF p (iH v) q) true (bT sS false):=
  Or.inl ⟨rfl,h.l,h.b.1,h.b.2.1,h.b.2.2,h.q,rfl,rfl⟩
 exact⟨[.b true],Ea ug rfl (ok (by kernel_rfl) (ai (rfl:true=true) (ai h.v0 (ai hq g))))⟩
theorem NL{n:Nat}{p v:List Nat}(h:zK p v)(hq:IA v=true):eF (M9 n 29 wn Cf (hF p v 0)) (.ret (.str (jj p v))) (hF p (iH v) 0):=by
 have g:(true=true∧v.length≤1000∧([]++p).length≤bS∧([]++p++[61,34]).length≤bS∧([]++p++[61,34]++iH v).length≤bS∧(jj p v).length≤bS∧Fl.ret (.str (jj p v))=Fl.ret (.str (jj p v))∧hF p (iH v) 0=hF p (iH v) 0)∨Qj n Cf (hF p v 0) (.ret (.str (jj p v))) (hF p (iH v) 0) true (bT sS false):=
  Or.inl ⟨rfl,h.l,h.b.1,h.b.2.1,h.b.2.2,h.q,rfl,rfl⟩
 exact⟨[.t,.b true],Ea ug rfl (ok (by kernel_rfl) (ai (rfl:true=true) (ai h.v0 (ai (rfl:true=true) (ai hq g)))))⟩
theorem NN{n:Nat}{p v:List Nat}(h:zK p v)(hq:IA v=false):eF (M9 n 29 wn Cf (hF p v 0)) (.ret (.str (n9 p v))) (hF p v 0):=by
 have h1:=h.b.1
 have h2:([]++p++[61]).length≤bS:=by have:=h.b.2.1;rw[ak]at this ⊢;exact ad (cN _) this
 have g:(false=true∧PO n Cf (hF p v 0) (.ret (.str (n9 p v))) (hF p v 0))∨(false=false∧([]++p).length≤bS∧([]++p++[61]).length≤bS∧(n9 p v).length≤bS∧Fl.ret (.str (n9 p v))=Fl.ret (.str (n9 p v))∧hF p v 0=hF p v 0):=Or.inr ⟨rfl,h1,h2,h.r,rfl,rfl⟩
 exact⟨[.t,.b false],Ea ug rfl (ok (by kernel_rfl) (ai (rfl:true=true) (ai h.v0 (ai (rfl:true=true) (ai hq g)))))⟩
noncomputable def Hq(p v:List Nat)(q:Int):List Nat:=cond (q !=0) (jj p v) (cond (IA v) (jj p v) (n9 p v))
theorem PB{n:Nat}{p v:List Nat}{q:Int}(h:zK p v):gn (C3 (n+1) 166 [.str p,.str v,.int q] []) (.str (Hq p v q)) []:=by
 unfold Hq
 induction e:(q !=0)using ah with
 |true=>exact⟨[.l (.ret (.str (jj p v))) (hF p (iH v) q)],ok (by kernel_rfl) (ai (NM (n:=n) h e) (rr (V.str (jj p v)) []))⟩
 |false=>
  obtain rfl:q=0:=by simpa using e
  induction e2:IA v using ah with
  |true=>exact⟨[.l (.ret (.str (jj p v))) (hF p (iH v) 0)],ok (by kernel_rfl) (ai (NL (n:=n) h e2) (rr (V.str (jj p v)) []))⟩
  |false=>exact⟨[.l (.ret (.str (n9 p v))) (hF p v 0)],ok (by kernel_rfl) (ai (NN (n:=n) h e2) (rr (V.str (n9 p v)) []))⟩
noncomputable def Fm:Cx:=rK (gS "_law_written") 0 [] false
noncomputable def hW(x w:List Nat)(m:Int)(p i:V)(r:List AO):Hp:= .loc [(nm "name",.str x),(nm "word",.str w),(nm "more",.int m),(nm "plain",p),(nm "inside",i)]::r
noncomputable def zX:List Nat:=[32,40,41,60,62,64,44,59,58,92,34,47,91,93,63,61]
noncomputable def qj(c:Nat):List (List Nat):=cond (zX.contains c) [[c]] []
noncomputable def qP(c:Nat):List Nat:=cond (([92,34]:List Nat).contains c) ([92]++[c]) [c]
noncomputable def I6:Expr:=pH (cV (cZ (b6 (gS "_law_written")) 0)) [1,0]
noncomputable def EJ:Expr:=pH (cV (cZ (b6 (gS "_law_written")) 1)) [1]
noncomputable def sV(c:Nat):V:= .str [c]
theorem EY{n:Nat}{x w:List Nat}{m:Int}(hz:w.length≤1000000)(hb:(w.flatMap qj).length≤bS):gn (eH G3 n 26 I6 Fm (hW x w m .unb .unb [])) (.lst .str (w.flatMap qj)) (hW x w m .unb .unb []):=
 dw (e:=sV) (names:=[nm "mark"]) (Γc:=gP I6 Fm 1) (hp1:=hW x w m .unb .unb [fh "mark" .unb]) (H:=hW x w m .unb .unb [fh "mark" .unb]) (own:=false) (u:= .str) (f:=qj) (okf:=fun M p=>p)
  (fun ds K h=>ok (by kernel_rfl) h) hz (fun hp2 p e k=>k) (by kernel_rfl)
  (fun c M=>⟨hW x w m .unb .unb [fh "mark" (.str [c])],by
   unfold qj
   induction z:zX.contains c using ah with
   |false=>exact⟨⟨[.b false],ok (by kernel_rfl) (ai z (rc (u:= .str) [] (hW x w m .unb .unb [fh "mark" (.str [c])])))⟩,by kernel_rfl⟩
   |true=>exact⟨⟨[.b true],ok (by kernel_rfl) (ai z (rc (u:= .str) [[c]] (hW x w m .unb .unb [fh "mark" (.str [c])])))⟩,by kernel_rfl⟩⟩)
  fun K ds k=>ok (by kernel_rfl) (ai hb k)
theorem EX{n:Nat}{x w:List Nat}{m:Int}{p0:Bool}(hz:w.length≤1000000)(hb:(w.flatMap fun c=>[qP c]).length≤bS):gn (eH G3 n 27 EJ Fm (hW x w m (.bool p0) .unb [])) (.lst .str (w.flatMap fun c=>[qP c])) (hW x w m (.bool p0) .unb []):=
 dw (e:=sV) (names:=[nm "mark"]) (Γc:=gP EJ Fm 1) (hp1:=hW x w m (.bool p0) .unb [fh "mark" .unb]) (H:=hW x w m (.bool p0) .unb [fh "mark" .unb]) (own:=false) (u:= .str) (f:=fun c=>[qP c]) (okf:=fun M p=>p)
  (fun ds K h=>ok (by kernel_rfl) h) hz (fun hp2 p e k=>k) (by kernel_rfl)
  (fun c M=>⟨hW x w m (.bool p0) .unb [fh "mark" (.str [c])],by
   unfold qP
   induction z:([92,34]:List Nat).contains c using ah with
   |false=>exact⟨⟨[.b false],ok (by kernel_rfl) (ai z (rc (u:= .str) [[c]] (hW x w m (.bool p0) .unb [fh "mark" (.str [c])])))⟩,by kernel_rfl⟩
   |true=>exact⟨⟨[.b true],ok (by kernel_rfl) (ai z (ai (by decide:2≤bS) (rc (u:= .str) [[92]++[c]] (hW x w m (.bool p0) .unb [fh "mark" (.str [c])]))))⟩,by kernel_rfl⟩⟩)
  fun K ds k=>ok (by kernel_rfl) (ai hb k)
noncomputable def EC(m:Int):Bool:=m.fmod 2==0
noncomputable def Hv(l:List (List Nat)):Bool:=PyData.eqv (dat (.list .str) l) (dat (.list .str) [])
noncomputable def md(m:Int):List Nat:=cH (((m.fdiv 4).fmod 2).toNat) 92
noncomputable def qO(w:List Nat):List Nat:=gC [] (w.flatMap fun c=>[qP c])
theorem tj(l:List (List Nat)):gC [] l=l.flatten:=by
 induction l with
 |nil=>rfl
 |cons a l ih=>cases l with
  |nil=>exact(bk a).symm
  |cons b l=>show a++[]++gC [] (b::l)=_;rw[ih,bk];rfl
theorem qN(w:List Nat):qO w=w.flatMap qP:=by
 unfold qO
 rw[tj]
 induction w with
 |nil=>rfl
 |cons c w ih=>exact congrArg (qP c++ ·) ih
structure Ia(x w:List Nat)(m:Int):Prop where
 sm:aH m
 lx:x.length≤1000
 lw:w.length≤1000
 ch:w.all (fun c=>decide (c<0x110000))=true
theorem nr{α β:Type}{n:Nat}(f:α→List β)(l:List α)(h: ∀x∈l,(f x).length≤n):(l.flatMap f).length≤l.length*n:=by
 induction l with
 |nil=>exact a9 _
 |cons x l ih=>show(f x++l.flatMap f).length≤(l.length+1)*n;rw[ak,Nat.add_mul,bK,dR];exact bV (ih fun y m=>h y (.tail _ m)) (h x (.head _))
theorem yg(w:List Nat):(w.flatMap qj).length≤w.length:=ad (nr (n:=1) _ w fun c M=>by unfold qj;induction zX.contains c using ah with |false=>exact a9 1|true=>exact av 1) (aC (Nat.mul_one _))
theorem mJ(w:List Nat):(w.flatMap qP).length≤2*w.length:=ad (nr _ w fun c M=>by unfold qP;induction ([92,34]:List Nat).contains c using ah with |false=>exact cN 1|true=>exact av 2) (aC (Nat.mul_comm _ _))
theorem qB{x:Int}{b:Nat}(h1: -(b:Int)≤x)(h2:x≤b):x.natAbs≤b:=by omega
theorem LV{a b:List Nat}{m n:Nat}(h:a.length≤m)(k:b.length≤n):(a++b).length≤m+n:=by rw[ak];exact bV h k
theorem yz(w:List Nat):(w.flatMap fun c=>[qP c]).length=w.length:=by
 induction w with
 |nil=>rfl
 |cons c w ih=>exact congrArg (· +1) ih
theorem pR(m:Int):aH ((m.fdiv 4).fmod 2)∧((m.fdiv 4).fmod 2).toNat≤1∧(md m).length≤1:=by
 have a:=Int.fmod_nonneg_of_pos (m.fdiv 4) (b:=2) (by decide)
 have b:=Int.fmod_lt_of_pos (m.fdiv 4) (b:=2) (by decide)
 have c:((m.fdiv 4).fmod 2).toNat≤1:=Int.toNat_le.mpr (Int.le_of_lt_add_one b)
 refine⟨aj (qB (b:=1) (aW (by decide) a) (Int.le_of_lt_add_one b)) (by decide),c,?_⟩
 unfold md
 rw[List.length_replicate]
 exact c
noncomputable def Il(x w:List Nat)(m:Int):List Nat:=md m++x++[61]++([34]++qO w++[34])
noncomputable def Jp(x w:List Nat)(m:Int):List Nat:=md m++x++[61]++w
structure QF(x w:List Nat)(m:Int):Prop where
 a:aH ((m.fdiv 4).fmod 2)∧((m.fdiv 4).fmod 2).toNat≤bS
 b:(md m++x).length≤bS
 c:(md m++x++[61]).length≤bS
 d:(Jp x w m).length≤bS
 e:(Il x w m).length≤bS
 f:([34]++qO w).length≤bS
 g:([34]++qO w++[34]).length≤bS
 i:(qO w).length≤bS
 z:w.length≤1000000
 s:(w.flatMap qj).length≤bS
 o:(w.flatMap fun c=>[qP c]).length≤bS
theorem Ia.l{x w:List Nat}{m:Int}(h:Ia x w m):QF x w m:=by
 have b:=pR m
 have hw:=h.lw
 have hb:=LV b.2.2 h.lx
 have hc:=LV hb (av [61].length)
 have hi:=ad (mJ w) (bj 2 hw)
 rw[←qN]at hi
 have hf:=LV (av [34].length) hi
 have hg:=LV hf (av [34].length)
 exact⟨⟨b.1,ad b.2.1 (by decide)⟩,ad hb (by decide),ad hc (by decide),ad (LV hc hw) (by decide),ad (LV hc hg) (by decide),ad hf (by decide),ad hg (by decide),ad hi (by decide),ad hw (by decide),ad (ad (yg w) hw) (by decide),ad (aC (yz w)) (ad hw (by decide))⟩
theorem Go{w:List Nat}(h:w.all (fun c=>decide (c<0x110000))=true):jP (.list .str) (w.flatMap qj)=true:=by
 induction w with
 |nil=>rfl
 |cons c w ih=>
  have h:=aM.mp h
  show(qj c++w.flatMap qj).all (jP .str)=true
  rw[cg,cL]
  refine⟨?_,ih h.2⟩
  unfold qj
  cases zX.contains c with
  |false=>rfl
  |true=>exact aM.mpr ⟨aM.mpr ⟨h.1,rfl⟩,rfl⟩
noncomputable def sj(x w:List Nat)(m:Int):Bool:=cond (EC m) (Hv (w.flatMap qj)) false
noncomputable def FU(x w:List Nat)(m:Int):List Nat:=cond (sj x w m) (Jp x w m) (Il x w m)
theorem Pw{n:Nat}{x w:List Nat}{m:Int}(h:Ia x w m):gn (C3 (n+1) 305 [.str x,.str w,.int m] []) (.str (FU x w m)) []:=by
 have l:=h.l
 have t2: ∀p0,And (gn (eH G3 n 27 EJ Fm (hW x w m (.bool p0) .unb [])) (.lst .str (w.flatMap fun c=>[qP c])) (hW x w m (.bool p0) .unb [])) True:=fun p0=>⟨EX l.z l.o,trivial⟩
 have f4:(4:Int)≠0∧aH m∧Int.natAbs 4<2^30:=⟨by decide,h.sm,by decide⟩
 have z2:(2:Int)≠0:=by decide
 unfold FU sj
 induction e:EC m using ah with
 |false=>exact⟨[.b false,.r (.lst .str (w.flatMap fun c=>[qP c])) (hW x w m (.bool false) .unb []),.t],ok (by kernel_rfl) (ai z2 (ai e (ai (t2 false).1 (ai l.i (ai f4 (ai z2 (ai l.a (ai l.b (ai l.c (ai l.f (ai l.g (ai l.e (rr (V.str (Il x w m)) [])))))))))))))⟩
 |true=>
  have s1:bc (dat (.list .str) (w.flatMap qj))=true∧bc (dat (.list .str) [])=true:=⟨gA (t:= .list .str) (Go h.ch) rfl,rfl⟩
  have t1:=EY (n:=n) (x:=x) (m:=m) l.z l.s
  induction e2:Hv (w.flatMap qj)using ah with
  |false=>exact⟨[.b true,.r (.lst .str (w.flatMap qj)) (hW x w m .unb .unb []),.r (.lst .str (w.flatMap fun c=>[qP c])) (hW x w m (.bool (Hv (w.flatMap qj))) .unb []),.b false],ok (by kernel_rfl) (ai z2 (ai e (ai t1 (ai (by decide:0≤bS) (ai s1 (ai (t2 (Hv (w.flatMap qj))).1 (ai l.i (ai f4 (ai z2 (ai l.a (ai l.b (ai l.c (ai e2 (ai l.f (ai l.g (ai l.e (rr (V.str (Il x w m)) [])))))))))))))))))⟩
  |true=>exact⟨[.b true,.r (.lst .str (w.flatMap qj)) (hW x w m .unb .unb []),.r (.lst .str (w.flatMap fun c=>[qP c])) (hW x w m (.bool (Hv (w.flatMap qj))) .unb []),.b true],ok (by kernel_rfl) (ai z2 (ai e (ai t1 (ai (by decide:0≤bS) (ai s1 (ai (t2 (Hv (w.flatMap qj))).1 (ai l.i (ai f4 (ai z2 (ai l.a (ai l.b (ai l.c (ai e2 (ai l.d (rr (V.str (Jp x w m)) [])))))))))))))))⟩
noncomputable def Oe:Cx:=rK (gS "_law_lack") 0 [] false
noncomputable def IZ(o g:Int)(r:List AO):Hp:= .loc []:: .cell (.int o):: .cell (.int g)::r
noncomputable def NQ:Expr:=pH (cV (cZ (b6 (gS "_law_lack")) 0)) [1]
noncomputable def OC(o g d:Int):Bool:=(d*g).fmod o==0
noncomputable def GY(o g d:Int):List Int:=cond (OC o g d) [d] []
noncomputable def uk(o:Int):List Int:=eR 1 1 (fk 1 (o+1) 1)
structure FA(o g:Int):Prop where
 nz:o≠0
 so:kO (o+1)=true
 rs:aY 1 (o+1) 1=true
 sd: ∀d∈uk o,kO d=true
 sg:kO g=true
 l:(uk o).length≤1000000
 b:((uk o).flatMap (GY o g)).length≤bS
 n:0<((uk o).flatMap (GY o g)).length
theorem HL{n:Nat}{o g:Int}(h:FA o g):gn (eH G3 n 27 NQ Oe (IZ o g [])) (.lst .int ((uk o).flatMap (GY o g))) (IZ o g []):=
 dw (e:=V.int) (names:=[nm "d"]) (Γc:=gP NQ Oe 3) (hp1:=IZ o g [fh "d" .unb]) (H:=IZ o g [fh "d" .unb]) (own:=false) (u:= .int) (f:=GY o g) (okf:=fun M p=>p)
  (fun ds K q=>ok (by kernel_rfl) (ai (ai (bU (i:=1) rfl) (bU h.so)) (ai h.rs q))) h.l (fun hp2 p e k=>k) (by kernel_rfl)
  (fun d hd=>⟨IZ o g [fh "d" (.int d)],by
   unfold GY
   induction z:OC o g d using ah with
   |false=>exact⟨⟨[.b false],ok (by kernel_rfl) (ai (ai (bU (h.sd d hd)) (bU h.sg)) (ai h.nz (ai z (rc (u:= .int) [] (IZ o g [fh "d" (.int d)])))))⟩,by kernel_rfl⟩
   |true=>exact⟨⟨[.b true],ok (by kernel_rfl) (ai (ai (bU (h.sd d hd)) (bU h.sg)) (ai h.nz (ai z (rc (u:= .int) [d] (IZ o g [fh "d" (.int d)])))))⟩,by kernel_rfl⟩⟩)
  fun K ds k=>ok (by kernel_rfl) (ai h.b k)
noncomputable def Ai(o g:Int):List Int:=(uk o).flatMap (GY o g)
theorem N9{n:Nat}{o g:Int}(h:FA o g):gn (C3 (n+1) 334 [.int o,.int g] []) (.int (wK (Ai o g))) []:=
 ⟨[.r (.lst .int (Ai o g)) (IZ o g [])],ok (by kernel_rfl) (ai (HL (n:=n) h) (ai h.n (rr (V.int (wK (Ai o g))) [])))⟩
noncomputable def Cd:Cx:=rK (gS "_law_limit") 0 [] false
structure zH where
 size:Int
 most:Int
 limit:Int
 bound:Int
noncomputable def uL(l:List Int)(s:zH)(one order many:V):Hp:=[.loc [(nm "sizes",.lst .int l),(nm "size",.int s.size),(nm "most",.int s.most),(nm "limit",.int s.limit),(nm "bound",.int s.bound),(nm "one",one),(nm "order",order),(nm "many",many)]]
noncomputable def Dc:bP:=cZ (b6 (gS "_law_limit")) 1
noncomputable def Db:bP:=cZ (b6 (gS "_law_limit")) 3
noncomputable def LU(s:zH)(x:Int):zH:=⟨s.size*x,s.most,s.limit,s.bound⟩
noncomputable def GW(s:zH)(x:Int):Bool:=cond (kO s.size) (kO x) false
theorem CJ{n:Nat}{l:List Int}(s:zH)(x:Int)(h:GW s x=true): ∃f hp1,eF (eE G3 n 29 Dc Cd (.int x) (uL l s .unb .unb .unb)) f hp1∧(f= .next∨f= .cont)∧
  ∀(next:Hp→Ds→Prop) ds,next (uL l (LU s x) .unb .unb .unb) ds→gB 1 [] (forget 0 [nm "one"] hp1) fun M hp=>next hp ds:=
 have h:=ct h
 ⟨.next,uL l (LU s x) (.int x) .unb .unb,⟨[],ok (by kernel_rfl) (ai (ai (bU h.1) (bU h.2)) (rr Fl.next (uL l (LU s x) (.int x) .unb .unb)))⟩,.inl rfl,fun next ds k=>ok (by kernel_rfl) k⟩
noncomputable def iB(l:List Int):List Int:=mZ l++[1]
noncomputable def PT(s:zH):Bool:=decide (46*s.most*s.most<s.size)
noncomputable def Kp(l:List Int)(s:zH)(k:Int):zH:=cond (PT s) ⟨s.size,s.most*H8 (iB l) k,k,23*s.most⟩ ⟨s.size,s.most*H8 (iB l) k,s.limit,s.bound⟩
noncomputable def DL(l:List Int)(s:zH)(k:Int):Bool:=cond (kO s.most) (cond (kO (46*s.most)) (cond (eQ (iB l).length k).isSome (kO (H8 (iB l) k)) false) false) false
theorem CI{n:Nat}{l:List Int}(s:zH)(k:Int)(h:DL l s k=true): ∃f hp1,eF (eE G3 n 29 Db Cd (.int k) (uL l s .unb (.lst .int (iB l)) .unb)) f hp1∧(f= .next∨f= .cont)∧
  ∀(next:Hp→Ds→Prop) ds,next (uL l (Kp l s k) .unb (.lst .int (iB l)) .unb) ds→gB 1 [] (forget 0 [nm "many"] hp1) fun M hp=>next hp ds:=by
 have h1:=ct h
 have h2:=ct h1.2
 have h3:=ct h2.2
 refine⟨.next,uL l (Kp l s k) .unb (.lst .int (iB l)) (.int k),?_,.inl rfl,fun next ds q=>ok (by kernel_rfl) q⟩
 unfold Kp
 induction z:PT s using ah with
 |true=>exact⟨[.b true],ok (by kernel_rfl) (ai (ai (bU (i:=46) rfl) (bU h1.1)) (ai (ai (bU h2.1) (bU h1.1)) (ai z (ai (ai (bU (i:=23) rfl) (bU h1.1)) (ai h3.1 (ai (ai (bU h1.1) (bU h3.2)) (rr Fl.next (uL l ⟨s.size,s.most*H8 (iB l) k,k,23*s.most⟩ .unb (.lst .int (iB l)) (.int k)))))))))⟩
 |false=>exact⟨[.b false],ok (by kernel_rfl) (ai (ai (bU (i:=46) rfl) (bU h1.1)) (ai (ai (bU h2.1) (bU h1.1)) (ai z (ai h3.1 (ai (ai (bU h1.1) (bU h3.2)) (rr Fl.next (uL l ⟨s.size,s.most*H8 (iB l) k,s.limit,s.bound⟩ .unb (.lst .int (iB l)) (.int k))))))))⟩
structure FB(l:List Int)(s t:zH):Prop where
 a:gL GW LU l ⟨1,1,0,0⟩=some s
 b:gL (DL l) (Kp l) (iO (iB l).length) s=some t
 l64:l.length<64
 n:(mZ l).length≤bS
 o:(iB l).length≤1000000
theorem Pt{n:Nat}{l:List Int}{s t:zH}(h:FB l s t):gn (C3 (n+1) 324 [.lst .int l] []) (two t.limit t.bound) []:=by
 have f1:eF (ka G3 n 29 Dc Cd (uL l ⟨1,1,0,0⟩ .unb .unb .unb)) .next (uL l s .unb .unb .unb):=by
  refine(jR (turn:=eE G3 n 29 Dc Cd) (okf:=fun M p=>p) (m:=1) (fr:=0) (names:=[nm "one"]) (e:=V.int) (H:=fun s=>uL l s .unb .unb .unb) (fun M M p=>p) CJ l h.a (fun f h' M=>f= .next∧h'=uL l s .unb .unb .unb) [] ⟨rfl,rfl⟩).elim fun d q=> ?_
  exact⟨d,ok (by kernel_rfl) q⟩
 have f2:eF (ka G3 n 29 Db Cd (uL l s .unb (.lst .int (iB l)) .unb)) .next (uL l t .unb (.lst .int (iB l)) .unb):=by
  refine(jR (turn:=eE G3 n 29 Db Cd) (okf:=fun M p=>p) (m:=1) (fr:=0) (names:=[nm "many"]) (e:=V.int) (H:=fun s=>uL l s .unb (.lst .int (iB l)) .unb) (fun M M p=>p) CI (iO (iB l).length) h.b (fun f h' M=>f= .next∧h'=uL l t .unb (.lst .int (iB l)) .unb) [] ⟨rfl,rfl⟩).elim fun d q=> ?_
  exact⟨d,ok (by kernel_rfl) (ai (mz h.o) (ai (Bn h.o) q))⟩
 exact⟨[.l .next (uL l s .unb .unb .unb),.l .next (uL l t .unb (.lst .int (iB l)) .unb)],ok (by kernel_rfl) (ai f1 (ai h.l64 (ai h.n (ai (by decide:1≤bS) (ai (h.o:(iB l).length≤bS) (ai f2 (rr (two t.limit t.bound) [])))))))⟩
noncomputable abbrev RW:Ty:= .cons .int (.cons .str (.cons .str (.cons .int (.cons .bool (.one .int)))))
noncomputable def nQ:bP:=cZ (b6 (gS "_law_rows")) 3
noncomputable def zu:Cx:=rK (gS "_law_rows") 0 [] false
noncomputable def xc:List (List Nat):=[[],[40,120,41,92],[40,92,41,41],[40,34,41,34,41],[34,40,34,34,92,34,40,34,40,41],[40,41,34],[40,10,41]]++[32,60,62,64,44,59,58,47,91,93,63,61,43,33,39].map sg
noncomputable def Fk:List (List Nat):=[[40],[41,40],[40,92,41],[40,34,41,34],[40,34,92,34,41,34],[34,41]]
noncomputable def w9(c:List Int)(r:List (den RW))(k eQ size kind more value word:V):Hp:=[.loc [(nm "cells",.lst .int c),(nm "good",.lst .str xc),(nm "bad",.lst .str Fk),(nm "rows",.own 1),(nm "k",k),(nm "place",eQ),(nm "size",size),(nm "kind",kind),(nm "more",more),(nm "value",value),(nm "word",word)],.list RW r]
noncomputable def OQ(i:Nat):List bP:=[cZ (bT nQ true) i]
noncomputable def xP(c:List Int)(k:Int):Int:=getD c k 0
noncomputable def zU:List Int:=[5,7,8,9,11,13,17]
noncomputable def Ab(c:List Int)(k:Int):Int:=((xP c 0).fdiv 24+(((xP c 0).fdiv 168).fmod 6+1)*k).fmod 7
noncomputable def sO(c:List Int)(k:Int):Int:=getD zU (Ab c k) 0
noncomputable def DT(c:List Int)(k:Int):Int:=(xP c (k+1)).fmod 8
noncomputable def lN(c:List Int)(k:Int):Int:=(xP c (k+1)).fdiv 8
noncomputable def Bb(c:List Int)(k:Int):Int:=(xP c 0).fmod 24+sO c k*((lN c k).fmod 5-2)
noncomputable def y4(c:List Int)(k:Int):Bool:=([4,5,7]:List Int).contains (DT c k)
noncomputable def mo(c:List Int)(k:Int):Int:=cond (y4 c k) (Bb c k+(((lN c k).fdiv 5).fmod (sO c k-1)+1)) (Bb c k)
noncomputable def fW(c:List Int)(k:Int):Bool:=decide (DT c k<6)
noncomputable def GQ(c:List Int)(k:Int):List Nat:=cond (fW c k) (getD xc (((lN c k).fdiv 30).fmod 22) []) (getD Fk (((lN c k).fdiv 30).fmod 6) [])
noncomputable def FT(c:List Int)(k:Int):List Nat:=iR (mo c k)++GQ c k
noncomputable def Fv:List Nat:=[97,98,99,100,101,102,103,65,66,67,68,69,70,71]
noncomputable def Ki(c:List Int)(k:Int):Int:=Ab c k+7*((lN c k).fdiv 2).fmod 2
noncomputable def Qt(c:List Int)(k:Int):List Nat:=[getD Fv (Ki c k) 0]
noncomputable def iN(c:List Int)(k:Int):den RW:=(sO c k,Qt c k,FT c k,mo c k,fW c k,lN c k)
abbrev dv(a b:Int):Prop:=b≠0∧aH a∧b.natAbs<2^30
structure lI(c:List Int)(k:Int):Prop where
 c0:fy c.length 0
 s0:aH (xP c 0)
 p1:aH (((xP c 0).fdiv 168).fmod 6+1)∧aH k
 pl:fy zU.length (Ab c k)
 ck:fy c.length (k+1)
 sk:aH (xP c (k+1))
 sz:aH (sO c k)∧aH ((lN c k).fmod 5-2)
 sm:aH (lN c k)
 s1:sO c k-1≠0
 sv:aH (mo c k)
 gd:fy xc.length (((lN c k).fdiv 30).fmod 22)
 bd:fy Fk.length (((lN c k).fdiv 30).fmod 6)
 wl:(FT c k).length≤bS
 m2:aH 7∧aH (((lN c k).fdiv 2).fmod 2)
 al:fy Fv.length (Ki c k)
section
variable{n:Nat}{c:List Int}{r:List (den RW)}{k:Int}
theorem Nz(h:lI c k):Goes (bf (fb G3 n 29) ((bT nQ true).take 4) zu (w9 c r (.int k) .unb .unb .unb .unb .unb .unb)) .next (w9 c r (.int k) (.int (Ab c k)) (.int (sO c k)) (.int (DT c k)) (.int (lN c k)) (.int (Bb c k)) .unb):=fun K d q=>
 ⟨d,ok (by kernel_rfl) (ai h.c0 (ai (⟨by decide,h.s0,by decide⟩:dv (xP c 0) 24) (ai h.c0 (ai (⟨by decide,h.s0,by decide⟩:dv (xP c 0) 168) (ai (by decide:(6:Int)≠0) (ai h.p1 (ai (by decide:(7:Int)≠0) (ai h.pl (ai h.ck (ai (by decide:(8:Int)≠0) (ai h.ck (ai (⟨by decide,h.sk,by decide⟩:dv (xP c (k+1)) 8) (ai h.c0 (ai (by decide:(24:Int)≠0) (ai (by decide:(5:Int)≠0) (ai h.sz q))))))))))))))))⟩
theorem Ny(h:lI c k):Goes (bf (fb G3 n 29) [cZ (bT nQ true) 4] zu (w9 c r (.int k) (.int (Ab c k)) (.int (sO c k)) (.int (DT c k)) (.int (lN c k)) (.int (Bb c k)) .unb)) .next (w9 c r (.int k) (.int (Ab c k)) (.int (sO c k)) (.int (DT c k)) (.int (lN c k)) (.int (mo c k)) .unb):=fun K d q=>by
 unfold mo at q
 induction z:y4 c k using ah with
 |true=>rw[z]at q;exact⟨.b true::d,ok (by kernel_rfl) (ai z (ai (⟨by decide,h.sm,by decide⟩:dv (lN c k) 5) (ai h.s1 q)))⟩
 |false=>rw[z]at q;exact⟨.b false::d,ok (by kernel_rfl) (ai z q)⟩
theorem Nw(h:lI c k):Goes (bf (fb G3 n 29) [cZ (bT nQ true) 5] zu (w9 c r (.int k) (.int (Ab c k)) (.int (sO c k)) (.int (DT c k)) (.int (lN c k)) (.int (mo c k)) .unb)) .next (w9 c r (.int k) (.int (Ab c k)) (.int (sO c k)) (.int (DT c k)) (.int (lN c k)) (.int (mo c k)) (.str (FT c k))):=fun K d q=>by
 have wl:=h.wl
 unfold FT GQ at q wl
 induction z:fW c k using ah with
 |true=>rw[z]at q wl;exact⟨.b true::d,ok (by kernel_rfl) (ai h.sv (ai z (ai (⟨by decide,h.sm,by decide⟩:dv (lN c k) 30) (ai (by decide:(22:Int)≠0) (ai h.gd (ai wl q))))))⟩
 |false=>rw[z]at q wl;exact⟨.b false::d,ok (by kernel_rfl) (ai h.sv (ai z (ai (⟨by decide,h.sm,by decide⟩:dv (lN c k) 30) (ai (by decide:(6:Int)≠0) (ai h.bd (ai wl q))))))⟩
theorem Nv(h:lI c k)(hr:(r++[iN c k]).length≤bS):Goes (bf (fb G3 n 29) [cZ (bT nQ true) 6] zu (w9 c r (.int k) (.int (Ab c k)) (.int (sO c k)) (.int (DT c k)) (.int (lN c k)) (.int (mo c k)) (.str (FT c k)))) .next (w9 c (r++[iN c k]) (.int k) (.int (Ab c k)) (.int (sO c k)) (.int (DT c k)) (.int (lN c k)) (.int (mo c k)) (.str (FT c k))):=fun K d q=>
 ⟨d,ok (by kernel_rfl) (ai (⟨by decide,h.sm,by decide⟩:dv (lN c k) 2) (ai (by decide:(2:Int)≠0) (ai h.m2 (ai h.al (ai hr q)))))⟩
theorem Gb(r:List (den RW))(k:Int)(h:lI c k∧(r++[iN c k]).length≤bS): ∃f hp1,eF (eE G3 n 29 nQ zu (.int k) (w9 c r .unb .unb .unb .unb .unb .unb .unb)) f hp1∧(f= .next∨f= .cont)∧
  ∀(next:Hp→Ds→Prop) ds,next (w9 c (r++[iN c k]) .unb .unb .unb .unb .unb .unb .unb) ds→gB 2 [] (forget 0 [nm "k",nm "place",nm "size",nm "kind",nm "more",nm "value",nm "word"] hp1) fun M hp=>next hp ds:=by
 have e:bT nQ true=(bT nQ true).take 4++cZ (bT nQ true) 4::cZ (bT nQ true) 5::[cZ (bT nQ true) 6]:=by kernel_rfl
 obtain⟨ds,z⟩:=n7 e (Nz (n:=n) (r:=r) h.1) (ca rfl (Ny h.1) (ca rfl (Nw h.1) (Nv h.1 h.2))) (fun f h' M=>f= .next∧h'=w9 c (r++[iN c k]) (.int k) (.int (Ab c k)) (.int (sO c k)) (.int (DT c k)) (.int (lN c k)) (.int (mo c k)) (.str (FT c k))) [] ⟨rfl,rfl⟩
 exact⟨.next,w9 c (r++[iN c k]) (.int k) (.int (Ab c k)) (.int (sO c k)) (.int (DT c k)) (.int (lN c k)) (.int (mo c k)) (.str (FT c k)),⟨ds,ok (by kernel_rfl) z⟩,.inl rfl,fun next ds k=>ok (by kernel_rfl) k⟩
noncomputable def bE:List Int:=[0,1,2,3,4,5,6,7,8]
noncomputable def sT(c:List Int):List (den RW):=bE.map (iN c)
theorem Px(h: ∀k∈bE,lI c k):gn (C3 (n+1) 300 [.lst .int c] []) (.lst RW (sT c)) []:=by
 have key: ∀(l:List Int) (r:List (den RW)),(∀k∈l,lI c k)→r.length+l.length≤bS→gw (fun r k=>lI c k∧(r++[iN c k]).length≤bS) (fun r k=>r++[iN c k]) l r (r++l.map (iN c)):=fun l=>by
  induction l with
  |nil=>exact fun r M M=>(bk r).symm
  |cons k l ih=>
   intro r h hz
   refine⟨⟨h k (.head _),?_⟩,?_⟩
   ·rw[ak];exact ad (bH (cM (a9 _)) _) hz
   ·have z:=ih (r++[iN c k]) (fun k m=>h k (.tail _ m)) (by rw[ak,da];exact(bK 1 l.length).symm▸hz)
    rw[aQ]at z
    exact z
 have f:eF (ka G3 n 29 nQ zu (w9 c [] .unb .unb .unb .unb .unb .unb .unb)) .next (w9 c (sT c) .unb .unb .unb .unb .unb .unb .unb):=by
  obtain⟨d,q⟩:=fP (turn:=eE G3 n 29 nQ zu) (okf:=fun M p=>p) (m:=2) (fr:=0) (names:=[nm "k",nm "place",nm "size",nm "kind",nm "more",nm "value",nm "word"]) (e:=V.int) (H:=fun r=>w9 c r .unb .unb .unb .unb .unb .unb .unb) (fun M M p=>p) Gb bE (key bE [] h (by decide)) (fun f h' M=>f= .next∧h'=w9 c (sT c) .unb .unb .unb .unb .unb .unb .unb) [] ⟨rfl,rfl⟩
  exact⟨d,ok (by kernel_rfl) (ai (bU (i:=9) rfl) (ai (rfl:aY 0 9 1=true) q))⟩
 exact⟨[.l .next (w9 c (sT c) .unb .unb .unb .unb .unb .unb .unb)],ok (by kernel_rfl) (ai (by decide:7≤bS) (ai (by decide:15≤bS) (ai (by decide:22≤bS) (ai (by decide:6≤bS) (ai (by decide:0≤bS) (ai f (rr (V.lst RW (sT c)) [])))))))⟩
end
noncomputable def Ce:Cx:=rK (gS "_law_read") 0 [] true
noncomputable def xR:List Nat:=[61,32,10,9]
noncomputable def Cu(t:List Nat)(m:Int)(p:V)(s:dS)(r:List AO):Hp:= .loc [(nm "text",.str t),(nm "many",.int m),(nm "stream",.own 4),(nm "pairs",p)]:: .cell (.own 8):: .cell (.own 3):: .list .str (s.text.map sg):: .fn 3 [] (some 6):: .fn 4 [(nm "left",2)] none:: .attrs [(nm "read",.own 5)]::
 .attrs [(nm "lineno",.int s.line),(nm "instream",.own 4),(nm "whitespace",.str s.ws),(nm "pushback",.own 9)]:: .inst 139 7:: .list .str s.push::r
noncomputable def PX(t:List Nat)(m:Int):Hp:=[.loc [(nm "text",.str t),(nm "many",.int m),(nm "stream",.unb),(nm "pairs",.unb)],.cell .unb,.cell .unb]
theorem Nu{n:Nat}{t:List Nat}{m:Int}(h:(t.map sg).length≤bS):Goes (bf (fb G3 (n+1) 30) ((b6 (gS "_law_read")).take 5) Ce (PX t m)) .next (Cu t m .unb ⟨1,t,xR,[]⟩ []):=fun K d q=>
 ⟨.r .none (hX ⟨1,t,OM,[]⟩ [])::d,ok (by kernel_rfl) (ai h (ai (rfl:fH.lookup 3=fH.lookup 3) (ai (rfl:fH.lookup 4=fH.lookup 4) (ai (QC (n:=n) (t:=t)) (ai (rfl:V.none=V.none) q)))))⟩
noncomputable def NS:Expr:=cV (cZ (b6 (gS "_law_read")) 5)
noncomputable def kc(v:V)(lx:V):List AO:=[.loc [(nm ".0",.unb),(nm "k",v)]]
def PL(s:dS)(_:Int)(s2:dS)(o:List (den HT)):Prop:=∃k1 k2 w1 w2 s1,s.push=[]∧s1.push=[]∧kz k1 s=some (w1,s1)∧kz k2 s1=some (w2,s2)∧o=[(w1,w2)]
theorem HN{n:Nat}{t:List Nat}{m:Int}{s s2:dS}{o:List (den HT)}(hm:aH m)(hs:aY 0 m 1=true)(hl:(iO m).length≤1000000)(r:De (u:=HT) PL (iO m) s s2 o)(hb:o.length≤bS):
  gn (eH G3 (n+3) 28 NS Ce (Cu t m .unb s [])) (.lst HT o) (Cu t m .unb s2 []):=
 B3 (e:=V.int) (u:=HT) (names:=[nm "k"]) (Γc:=gP NS Ce 10) (hp1:=Cu t m .unb s (kc .unb .unb)) (H:=fun s=>Cu t m .unb s (kc .unb .unb)) (own:=false) (okf:=fun M p=>p)
  (fun ds K q=>ok (by kernel_rfl) (ai hm (ai hs q))) hl (fun hp2 s p e k=>k) (by kernel_rfl)
  (fun s k s2 a h=>by
   obtain⟨k1,k2,w1,w2,s1,h1,h2,h3,h4,rfl⟩:=h
   exact⟨Cu t m .unb s2 (kc (.int k) .unb),⟨[.r (.str w1) (hX s1 []),.r (.str w2) (hX s2 [])],ok (by kernel_rfl) (ai (Pq (n:=n) h1 h3) (ai (Pq (n:=n) h2 h4) (rc (u:=HT) [(w1,w2)] (Cu t m .unb s2 (kc (.int k) .unb)))))⟩,by kernel_rfl⟩)
  r fun K ds k=>ok (by kernel_rfl) (ai hb k)
noncomputable def OR(o:List (den HT))(w:List Nat)(line:Int)(l:List Nat):V:= .tc (.lst HT o) (.tc (.str w) (.tc (.int line) (.tc (.lst .str (l.map sg)) .t0)))
structure zE(t:List Nat)(m:Int)(o:List (den HT))(w:List Nat)(line:Int)(l:List Nat):Prop where
 lt:(t.map sg).length≤bS
 sm:aH m
 rs:aY 0 m 1=true
 z:(iO m).length≤1000000
 b:o.length≤bS
 r: ∃k s2 s3,De (u:=HT) PL (iO m) ⟨1,t,xR,[]⟩ s2 o∧s2.push=[]∧kz k s2=some (w,s3)∧s3.line=line∧s3.text=l
theorem Pv{n:Nat}{t:List Nat}{m:Int}{o:List (den HT)}{w:List Nat}{line:Int}{l:List Nat}(h:zE t m o w line l):gn (C3 (n+4) 310 [.str t,.int m] []) (OR o w line l) []:=by
 obtain⟨k,s2,s3,r,h2,h3,rfl,rfl⟩:=h.r
 have c:=HN (n:=n) (t:=t) h.sm h.rs h.z r h.b
 have g1:Goes (bf (fb G3 (n+3) 30) [cZ (b6 (gS "_law_read")) 5] Ce (Cu t m .unb ⟨1,t,xR,[]⟩ [])) .next (Cu t m (.lst HT o) s2 []):=fun K d q=>⟨.r (.lst HT o) (Cu t m .unb s2 [])::d,ok (by kernel_rfl) (ai c q)⟩
 have g2:Goes (bf (fb G3 (n+3) 30) [cZ (b6 (gS "_law_read")) 6] Ce (Cu t m (.lst HT o) s2 [])) (.ret (.tc (.lst HT o) (.tc (.str w) (.tc (.int s3.line) (.tc (.own 3) .t0))))) (Cu t m (.lst HT o) s3 []):=fun K d q=>⟨.r (.str w) (hX s3 [])::d,ok (by kernel_rfl) (ai (Pq (n:=n) h2 h3) q)⟩
 have e0:b6 (gS "_law_read")=(b6 (gS "_law_read")).take 5++cZ (b6 (gS "_law_read")) 5::[cZ (b6 (gS "_law_read")) 6]:=by kernel_rfl
 exact As (fn:=(mM.lookup 310).getD ⟨qA,[],false,false⟩) (bs:=[(nm "text",.str t),(nm "many",.int m)]) (l:=b6 (gS "_law_read")) (Γ:=Ce) (by kernel_rfl) (by kernel_rfl) (by kernel_rfl) (by kernel_rfl) (hp1:=PX t m) (fun K k=>ok (by kernel_rfl) k)
  (n7 e0 (Nu (n:=n+2) h.lt) (ca rfl g1 g2)) (fun K k=>ok (by kernel_rfl) k)
noncomputable abbrev BB:Ty:= .cons .bool (.one .bool)
noncomputable abbrev AL:Ty:= .alt BB .str
noncomputable def yk:bP:=cZ (b6 (gS "_law_kept")) 1
noncomputable def lX:Cx:=rK (gS "_law_kept") 0 [] false
structure rL where
 l:List (den HT)
 sd:List (den AL)
noncomputable def j8(p:List (den HT))(s:rL)(x w v f:V)(r:List AO):Hp:= .loc [(nm "pairs",.lst HT p),(nm "table",.own 2),(nm "said",.own 4),(nm "name",x),(nm "word",w),(nm "verdict",v),(nm "fault",f)]:: .attrs [(nm "_headers",.own 3)]:: .inst 289 1:: .list HT s.l:: .list AL s.sd::r
noncomputable def PY(p:List (den HT)):Hp:=[.loc [(nm "pairs",.lst HT p),(nm "table",.unb),(nm "said",.unb),(nm "name",.unb),(nm "word",.unb),(nm "verdict",.unb),(nm "fault",.unb)]]
theorem Nt{n:Nat}{p:List (den HT)}:Goes (bf (fb G3 (n+1) 30) [cZ (b6 (gS "_law_kept")) 0] lX (PY p)) .next (j8 p ⟨[],[]⟩ .unb .unb .unb .unb []):=fun K d q=>
 ⟨.r .none (hH [])::d,ok (by kernel_rfl) (ai (PA (n:=n)) (ai (rfl:V.none=V.none) (ai (by decide:0≤bS) q)))⟩
noncomputable def vj:List bP:=bT yk true
noncomputable def pB(x:List Nat):den AL:=Sum.inr x
noncomputable def vd(v:Bool):den AL:= .inl (v==true,v==false)
theorem Nr{n:Nat}{p:List (den HT)}{s:rL}{x w y:List Nat}(h:l4 w=some y)(hz:(s.sd++[vd (E7 y)]).length≤bS):Goes (bf (fb G3 (n+2) 29) (vj.take 2) lX (j8 p s (.str x) (.str w) .unb .unb [])) .next (j8 p ⟨s.l,s.sd++[vd (E7 y)]⟩ (.str x) (.str w) (.bool (E7 y)) .unb []):=fun K d q=>
 ⟨.r (.bool (E7 y)) []::d,ok (by kernel_rfl) (ai (PC (n:=n) h) (ai hz q))⟩
noncomputable def Ec:bP:=cZ vj 2
noncomputable def tU:bP:=cZ (bT Ec true) 0
noncomputable def Mh(s:bP):List bP:=match s with
 | .Try b M Δ Θ Λ=>b
 |M=>[]
def JB(G:fS)(n d:Nat)(s:bP)(Γ:Cx)(hp:Hp)(ds:Ds)(K:KF):Prop:=match s with
 | .Try body hs orelse fin M=>JC G (fb G n d) (yI G n).1 (yI G n).2 body hs orelse fin Γ hp ds K
 |M=>False
noncomputable def Ef:ExceptHandler:= .ExceptHandler (some (.Name qC ⟨290,19,290,29⟩)) (some (nm "fault")) [.Expr (.Call (.Attribute (.Name (nm "said") ⟨291,16,291,20⟩) (ae "append") ⟨291,16,291,27⟩) [.Call (.Name (ae "str") ⟨291,28,291,31⟩) [.Name (nm "fault") ⟨291,32,291,37⟩] [] ⟨291,28,291,38⟩] [] ⟨291,16,291,39⟩) ⟨291,16,291,39⟩] ⟨290,12,291,39⟩
noncomputable def Lf:Expr:=cV (cZ (Mh tU) 0)
theorem sI:tU= .Try [.Expr Lf ⟨289,16,289,57⟩] [Ef] [] [] ⟨288,12,291,39⟩:=by kernel_rfl
theorem OO{n:Nat}{p:List (den HT)}{s:rL}{x w:List Nat}{v:Bool}(h:FF s.l x)(hx:clean x=true)(hy:fo s.l x=none→EP w=false)(hb:gj (s.l++[(x,w)]).length=true)(hz:(s.sd++[pB ((fo s.l x).getD w)]).length≤bS):
  eF (JB G3 (n+3) 27 tU lX (j8 p s (.str x) (.str w) (.bool v) .unb [])) .next (j8 p ⟨wg s.l x w,s.sd++[pB ((fo s.l x).getD w)]⟩ (.str x) (.str w) (.bool v) .unb []):=by
 refine⟨[.r (.str ((fo s.l x).getD w)) (hH (wg s.l x w))],?_⟩
 rw[sI]
 exact Or.inl ⟨Ef,[],rfl,ok (by kernel_rfl) (ai (Py (n:=n) h hx hy hb) (ai hz (rr Fl.next (j8 p ⟨wg s.l x w,s.sd++[pB ((fo s.l x).getD w)]⟩ (.str x) (.str w) (.bool v) .unb []))))⟩
noncomputable def xo:Str:=ae "Control characters not allowed in headers"
noncomputable def lD:List Nat:=xo.cps.toList
noncomputable def NJ:Fn:=(mM.lookup 279).getD ⟨qA,[],false,false⟩
noncomputable def NK:Fn:=(mM.lookup 188).getD ⟨qA,[],false,false⟩
noncomputable def nY(x w:List Nat)(r:V):AO:= .loc [(nm "self",.own 2),(nm "name",.str x),(nm "value",.str w),(nm "result",r)]
noncomputable def uB(w:List Nat)(r:V):AO:= .loc [(nm "self",.own 2),(nm "value",.str w),(nm "name",.bool false),(nm "regex",r)]
noncomputable def qi(i:Nat):bP:=cZ (b6 NK.code) i
theorem AX{Γ:Cx}{bs:List (Str×V)}{hp0 hp1:Hp}(e4: ∀K:Hp→Prop,K hp1→gQ Γ bs hp0 K){K:Hp→Prop}(k:K hp1):gQ Γ bs hp0 K:=e4 K k
theorem MF{n:Nat}{p:List (den HT)}{s:rL}{x w:List Nat}{vv:V}{K:Hp→Prop}(hc:EP w=true)(k:K (j8 p s (.str x) (.str w) vv .unb [nY x w .none,uB w (.val (.ref 158))])):
  nK G3 (fb G3 n 30) [.own 2,.str w] [(nm "name",.bool false)] (j8 p s (.str x) (.str w) vv .unb [nY x w .none]) xo K (.val (.ref 188)):=
 nK.mk 188 NK [(nm "self",.own 2),(nm "value",.str w),(nm "name",.bool false)] (cV (qi 0)) (cV (cZ (bT (qi 0) true) 1)) (cZ (bT (qi 0) true) 0) 0 ⟨196,22,196,32⟩ ⟨196,33,196,76⟩ ⟨196,22,196,77⟩ ⟨196,16,196,77⟩ ⟨195,12,196,77⟩ ⟨193,8,197,24⟩ (bT (qi 0) false) (bT (cZ (bT (qi 0) true) 1) false) [qi 1] [cZ (bT (qi 0) true) 2]
  (by kernel_rfl) (by kernel_rfl) (by kernel_rfl) (by kernel_rfl) (AX (hp1:=j8 p s (.str x) (.str w) vv .unb [nY x w .none,uB w .unb]) (fun K k=>ok (by kernel_rfl) k) ⟨[.t],ok (by kernel_rfl) (ai (rfl:true=true) (ai (rfl:Fl.next=Fl.next) (ai (rfl:true=true) (ai hc k))))⟩)
noncomputable def v6(i:Nat):bP:=cZ (b6 NJ.code) i
theorem ME{n:Nat}{p:List (den HT)}{s:rL}{x w:List Nat}{vv:V}{K:Hp→Prop}(h:FF s.l x)(hg:fo s.l x=none)(hx:clean x=true)(hc:EP w=true)(k:K (j8 p s (.str x) (.str w) vv .unb [nY x w .none,uB w (.val (.ref 158))])):
  lS G3 (fb G3 (n+2) 30) (fb G3 (n+1) 30) [.own 2,.str x,.str w] [] (j8 p s (.str x) (.str w) vv .unb []) xo K (.val (.ref 279)):=by
 have c:=Ff (n:=n) h
 rw[hg]at c
 exact lS.mk 279 NJ [(nm "self",.own 2),(nm "name",.str x),(nm "value",.str w)] (cV (v6 1)) (cV (cZ (bT (v6 1) true) 0)) (v6 0) ⟨248,12,248,124⟩ ⟨247,8,251,25⟩ (bT (v6 1) false) [cZ (bT (v6 1) true) 1] []
  (by kernel_rfl) (by kernel_rfl) (by kernel_rfl) (AX (hp1:=j8 p s (.str x) (.str w) vv .unb [nY x w .unb]) (fun K k=>ok (by kernel_rfl) k) ⟨[.r .none (hH s.l),.r (.str x) (hH s.l)],ok (by kernel_rfl) (ai c (ai (rfl:Fl.next=Fl.next) (ai (rfl:true=true) (ai (HZ (n:=n+1) (l:=s.l) hx) (MF (n:=n+1) (p:=p) (s:=s) (x:=x) (vv:=vv) hc k)))))⟩)
noncomputable def si(x w:List Nat):List AO:=[nY x w .none,uB w (.val (.ref 158))]
def DW(msg:Str)(h1:Hp)(hp:Hp):Prop:=eM lX (nm "fault") .unb hp fun hp=>fN (jd (nm "said") (lg G3 lX hp (nm "said"))) fun sv=>hZ G3 sv (ae "append") hp=some (.meth "list.append")∧wQ "list.append" sv [.str msg.cps.toList] hp fun M hp=>eM lX (nm "fault") .unb hp fun hp=>Fl.next=Fl.next∧hp=h1
theorem Mk{n:Nat}{p:List (den HT)}{s:rL}{x w:List Nat}{v:Bool}(h:FF s.l x)(hg:fo s.l x=none)(hx:clean x=true)(hc:EP w=true)(hz:(s.sd++[pB lD]).length≤bS):
  eF (JB G3 (n+3) 27 tU lX (j8 p s (.str x) (.str w) (.bool v) .unb [])) .next (j8 p ⟨s.l,s.sd++[pB lD]⟩ (.str x) (.str w) (.bool v) .unb (si x w)):=by
 refine⟨[],?_⟩
 rw[sI]
 have key:DW xo (j8 p ⟨s.l,s.sd++[pB lD]⟩ (.str x) (.str w) (.bool v) .unb (si x w)) (j8 p s (.str x) (.str w) (.bool v) .unb (si x w)):=
  ok (by kernel_rfl) (ai (rfl:some (fK.meth "list.append")=some (fK.meth "list.append")) (ai hz (rr Fl.next (j8 p ⟨s.l,s.sd++[pB lD]⟩ (.str x) (.str w) (.bool v) .unb (si x w)))))
 have q:Ft G3 (fb G3 (n+3) 27) Lf lX (j8 p s (.str x) (.str w) (.bool v) .unb []) [] fun a hp ds=>F1 G3 (fb G3 (n+3) 27) a lX hp ds fun f args kw hp ds=>lS G3 (yI G3 (n+3)).1 (yI G3 (n+3)).2 args kw hp xo (DW xo (j8 p ⟨s.l,s.sd++[pB lD]⟩ (.str x) (.str w) (.bool v) .unb (si x w))) f:=
  ok (by kernel_rfl) (ME (n:=n) (K:=DW xo (j8 p ⟨s.l,s.sd++[pB lD]⟩ (.str x) (.str w) (.bool v) .unb (si x w))) (vv:= .bool v) h hg hx hc key)
 exact Or.inr (Or.inr (Ie.mk Lf (nm "fault") (nm "said") xo ⟨289,16,289,57⟩ ⟨290,19,290,29⟩ ⟨291,16,291,20⟩ ⟨291,16,291,27⟩ ⟨291,28,291,31⟩ ⟨291,32,291,37⟩ ⟨291,16,291,39⟩ ⟨291,16,291,39⟩ ⟨291,28,291,38⟩ ⟨290,12,291,39⟩ (by kernel_rfl) (by kernel_rfl) (by kernel_rfl) (by kernel_rfl) (by kernel_rfl) (by kernel_rfl) rfl (by kernel_rfl) q))
noncomputable def GI(w:List Nat):Bool:=E7 ((l4 w).getD [])
noncomputable def uA(l:List (den HT))(p:den HT):Bool:=cond (fo l p.1).isNone (EP p.2) false
noncomputable def CL(l:List (den HT))(p:den HT):den AL:=cond (uA l p) (pB lD) (pB ((fo l p.1).getD p.2))
noncomputable def DP(l:List (den HT))(p:den HT):List (den HT):=cond (uA l p) l (wg l p.1 p.2)
noncomputable def sf(s:rL)(p:den HT):rL:=cond (GI p.2) ⟨DP s.l p,s.sd++[vd true]++[CL s.l p]⟩ ⟨s.l,s.sd++[vd false]⟩
structure tO(s:rL)(p:den HT):Prop where
 st:(l4 p.2).isSome=true
 h:FF s.l p.1
 hx:clean p.1=true
 hb:gj (s.l++[(p.1,p.2)]).length=true
 z:s.sd.length+2≤bS
theorem len2{s:List (den AL)}(z:s.length+2≤bS)(a:den AL):(s++[a]).length≤bS:=by
 rw[ak];exact ad (cN _) z
theorem Ks{s:List (den AL)}(z:s.length+2≤bS)(a b:den AL):(s++[a]++[b]).length≤bS:=by
 rw[ak,ak];exact z
section
variable{n:Nat}{ps:List (den HT)}
noncomputable def G4(s:rL)(p:den HT):List AO:=cond (GI p.2) (cond (uA s.l p) (si p.1 p.2) []) []
theorem Nq{s:rL}{p:den HT}(h:tO s p)(v:Bool):Goes (bf (fb G3 (n+3) 29) [Ec] lX (j8 ps ⟨s.l,s.sd++[vd v]⟩ (.str p.1) (.str p.2) (.bool v) .unb [])) .next
  (j8 ps (cond v ⟨DP s.l p,s.sd++[vd v]++[CL s.l p]⟩ ⟨s.l,s.sd++[vd v]⟩) (.str p.1) (.str p.2) (.bool v) .unb (cond v (cond (uA s.l p) (si p.1 p.2) []) [])):=fun K d q=>by
 induction v using ah with
 |false=>exact⟨.b false::d,ok (by kernel_rfl) (ai (rfl:false=false) q)⟩
 |true=>
  unfold DP CL at q
  induction z:uA s.l p using ah with
  |true=>
   rw[z]at q
   unfold uA at z
   have e:fo s.l p.1=none:=by
    induction y:fo s.l p.1 using aw with
    |none=>rfl
    |some v=>rw[y]at z;exact bh z
   rw[e]at z
   exact⟨.b true:: .l .next (j8 ps ⟨s.l,s.sd++[vd true]++[pB lD]⟩ (.str p.1) (.str p.2) (.bool true) .unb (si p.1 p.2))::d,ok (by kernel_rfl) (ai (rfl:true=true) (ai (Mk (n:=n) (p:=ps) (s:=⟨s.l,s.sd++[vd true]⟩) (v:=true) h.h e h.hx z (Ks h.z _ _)) q))⟩
  |false=>
   rw[z]at q
   have e:fo s.l p.1=none→EP p.2=false:=fun e=>by
    unfold uA at z
    rw[e]at z
    exact z
   exact⟨.b true:: .l .next (j8 ps ⟨wg s.l p.1 p.2,s.sd++[vd true]++[pB ((fo s.l p.1).getD p.2)]⟩ (.str p.1) (.str p.2) (.bool true) .unb [])::d,ok (by kernel_rfl) (ai (rfl:true=true) (ai (OO (n:=n) (p:=ps) (s:=⟨s.l,s.sd++[vd true]⟩) (v:=true) h.h h.hx e h.hb (Ks h.z _ _)) q))⟩
theorem G5(s:rL)(p:den HT)(v:Bool)(r:List AO)(hr:r=[]∨r=si p.1 p.2): ∀(next:Hp→Ds→Prop) ds,next (j8 ps s .unb .unb .unb .unb []) ds→gB 5 [] (forget 0 [nm "name",nm "word",nm "verdict",nm "fault"] (j8 ps s (.str p.1) (.str p.2) (.bool v) .unb r)) fun M hp=>next hp ds:=fun next ds k=>hr.elim (fun e=>by subst e;exact ok (by kernel_rfl) k) fun e=>by subst e;exact ok (by kernel_rfl) k
theorem Ga(s:rL)(p:den HT)(h:tO s p): ∃f hp1,eF (eE G3 (n+3) 29 yk lX (.tc (.str p.1) (.tc (.str p.2) .t0)) (j8 ps s .unb .unb .unb .unb [])) f hp1∧(f= .next∨f= .cont)∧
  ∀(next:Hp→Ds→Prop) ds,next (j8 ps (sf s p) .unb .unb .unb .unb []) ds→gB 5 [] (forget 0 [nm "name",nm "word",nm "verdict",nm "fault"] hp1) fun M hp=>next hp ds:=by
 have e:bT yk true=vj.take 2++[Ec]:=by kernel_rfl
 obtain⟨y,hy⟩:=Option.isSome_iff_exists.mp h.st
 have ey:GI p.2=E7 y:=by unfold GI;rw[hy];rfl
 have g:=n7 e (Nr (n:=n+1) (p:=ps) (s:=s) (x:=p.1) hy (len2 h.z _)) (Nq (n:=n) (ps:=ps) h (E7 y))
 rw[←ey]at g
 obtain⟨ds,z⟩:=g (fun f h' M=>f= .next∧h'=j8 ps (sf s p) (.str p.1) (.str p.2) (.bool (GI p.2)) .unb (G4 s p)) [] (by unfold sf G4;induction GI p.2 using ah<;>exact⟨rfl,rfl⟩)
 exact⟨.next,j8 ps (sf s p) (.str p.1) (.str p.2) (.bool (GI p.2)) .unb (G4 s p),⟨ds,ok (by kernel_rfl) z⟩,.inl rfl,G5 _ p _ _ (by unfold G4;induction GI p.2 using ah with |false=>exact .inl rfl|true=>induction uA s.l p using ah with |false=>exact .inl rfl|true=>exact .inr rfl)⟩
noncomputable def Ky(sd:List (den AL)):V:= .tc (.own 0) (.tc (.lst AL sd) .t0)
theorem Pu{t:rL}(hz:ps.length≤1000000)(h:gw tO sf ps ⟨[],[]⟩ t):gn (C3 (n+4) 317 [.lst HT ps] []) (Ky t.sd) (hH t.l):=by
 refine(fP (turn:=eE G3 (n+3) 29 yk lX) (okf:=fun M p=>p) (m:=5) (fr:=0) (names:=[nm "name",nm "word",nm "verdict",nm "fault"]) (e:=fun p:den HT=>V.tc (.str p.1) (.tc (.str p.2) .t0)) (H:=fun s=>j8 ps s .unb .unb .unb .unb []) (fun M M p=>p) (Ga (n:=n) (ps:=ps)) ps h (fun f h' M=>f= .next∧h'=j8 ps t .unb .unb .unb .unb []) [] ⟨rfl,rfl⟩).elim fun d q=> ?_
 have f:eF (ka G3 (n+3) 29 yk lX (j8 ps ⟨[],[]⟩ .unb .unb .unb .unb [])) .next (j8 ps t .unb .unb .unb .unb []):=⟨d,ok (by kernel_rfl) q⟩
 have g1:Goes (bf (fb G3 (n+3) 30) [yk] lX (j8 ps ⟨[],[]⟩ .unb .unb .unb .unb [])) .next (j8 ps t .unb .unb .unb .unb []):=fun K d q=>⟨.l .next (j8 ps t .unb .unb .unb .unb [])::d,ok (by kernel_rfl) (ai f q)⟩
 have g2:Goes (bf (fb G3 (n+3) 30) [cZ (b6 (gS "_law_kept")) 2] lX (j8 ps t .unb .unb .unb .unb [])) (.ret (.tc (.own 2) (.tc (.own 4) .t0))) (j8 ps t .unb .unb .unb .unb []):=fun K d q=>⟨d,ok (by kernel_rfl) q⟩
 have e0:b6 (gS "_law_kept")=[cZ (b6 (gS "_law_kept")) 0]++yk::[cZ (b6 (gS "_law_kept")) 2]:=by kernel_rfl
 exact As (fn:=(mM.lookup 317).getD ⟨qA,[],false,false⟩) (bs:=[(nm "pairs",.lst HT ps)]) (l:=b6 (gS "_law_kept")) (Γ:=lX) (by kernel_rfl) (by kernel_rfl) (by kernel_rfl) (by kernel_rfl) (hp1:=PY ps) (fun K k=>ok (by kernel_rfl) k)
  (n7 e0 (Nt (n:=n+2)) (ca rfl g1 g2)) (fun K k=>ok (by kernel_rfl) k)
end
noncomputable abbrev PI:Ty:= .cons .int (.one .int)
noncomputable def gI:Cx:=rK (gS "_law_chain") 3 [] false
structure jM where
 sh:List (den PI)
 le:Int
 wh:Int
noncomputable def O8(l:List (den HT))(f:AO)(r:List AO):Hp:= .inst 289 1:: .attrs [(nm "_headers",.own 2)]:: .list HT l::f::r
noncomputable def O0(sg:Int)(sh le wh x z w o re tu ru be:V):AO:= .loc [(nm "table",.own 0),(nm "sign",.int sg),(nm "shares",sh),(nm "least",le),(nm "whole",wh),(nm "name",x),(nm "size",z),(nm "word",w),(nm "often",o),(nm "rest",re),(nm "turn",tu),(nm "run",ru),(nm "behind",be)]
noncomputable def PZ(l:List (den HT))(sg:Int):Hp:=O8 l (O0 sg .unb .unb .unb .unb .unb .unb .unb .unb .unb .unb .unb) []
noncomputable def jF(l:List (den HT))(sg:Int)(s:jM)(x z w o re tu:V)(r:List AO):Hp:=O8 l (O0 sg (.own 4) (.int s.le) (.int s.wh) x z w o re tu .unb .unb) (.list PI s.sh::r)
theorem Np{n:Nat}{l:List (den HT)}{sg:Int}:Goes (bf (fb G3 n 30) [cZ (b6 (gS "_law_chain")) 0] gI (PZ l sg)) .next (jF l sg ⟨[],0,1⟩ .unb .unb .unb .unb .unb .unb []):=fun K d q=>
 ⟨d,ok (by kernel_rfl) (ai (by decide:0≤bS) q)⟩
noncomputable def Bs:bP:=cZ (b6 (gS "_law_chain")) 1
noncomputable def AU:List bP:=bT Bs true
noncomputable def Eb:bP:=cZ AU 1
noncomputable def oy:List bP:=bT Eb true
noncomputable def w8:bP:=cZ oy 1
noncomputable def Lj:List Nat:=[45,48,49,50,51,52,53,54,55,56,57]
noncomputable def uY(c:Nat):List (List Nat):=cond (Lj.contains c) [[c]] []
noncomputable def sB(w:List Nat):List Nat:=gC [] (w.flatMap uY)
noncomputable def jE(w:List Nat):Int:=(PySem.intText? ⟨(sB w).toArray⟩).getD 0
noncomputable def NR:Expr:=pH (cV (cZ oy 0)) [1,1,1]
section
variable{n:Nat}{l:List (den HT)}{sg:Int}{x:Nat}{z:Int}
theorem HM{s:jM}{w:List Nat}(hz:w.length≤1000000)(hb:(w.flatMap uY).length≤bS):gn (eH G3 n 23 NR gI (jF l sg s (.str [x]) (.int z) (.str w) .unb .unb .unb [])) (.lst .str (w.flatMap uY)) (jF l sg s (.str [x]) (.int z) (.str w) .unb .unb .unb []):=
 dw (e:=sV) (names:=[nm "mark"]) (Γc:=gP NR gI 5) (hp1:=jF l sg s (.str [x]) (.int z) (.str w) .unb .unb .unb [fh "mark" .unb]) (H:=jF l sg s (.str [x]) (.int z) (.str w) .unb .unb .unb [fh "mark" .unb]) (own:=false) (u:= .str) (f:=uY) (okf:=fun M p=>p)
  (fun ds K h=>ok (by kernel_rfl) h) hz (fun hp2 p e k=>k) (by kernel_rfl)
  (fun c M=>⟨jF l sg s (.str [x]) (.int z) (.str w) .unb .unb .unb [fh "mark" (.str [c])],by
   unfold uY
   induction z1:Lj.contains c using ah with
   |false=>exact⟨⟨[.b false],ok (by kernel_rfl) (ai z1 (rc (u:= .str) [] (jF l sg s (.str [x]) (.int z) (.str w) .unb .unb .unb [fh "mark" (.str [c])])))⟩,by kernel_rfl⟩
   |true=>exact⟨⟨[.b true],ok (by kernel_rfl) (ai z1 (rc (u:= .str) [[c]] (jF l sg s (.str [x]) (.int z) (.str w) .unb .unb .unb [fh "mark" (.str [c])])))⟩,by kernel_rfl⟩⟩)
  fun K ds k=>ok (by kernel_rfl) (ai hb k)
theorem Ng{s:jM}{o:Option (List Nat)}(h:FF l [x])(e:fo l [x]=o):Goes (bf (fb G3 (n+2) 29) [cZ AU 0] gI (jF l sg s (.str [x]) (.int z) .unb .unb .unb .unb [])) .next (jF l sg s (.str [x]) (.int z) (cD V.none V.str o) .unb .unb .unb []):=fun K d q=>by
 have c:=Ff (n:=n) h
 rw[e]at c
 induction o using aw with
 |none=>exact⟨.r .none (hH l)::d,ok (by kernel_rfl) (ai c q)⟩
 |some w=>exact⟨.r (.str w) (hH l)::d,ok (by kernel_rfl) (ai c q)⟩
noncomputable def Ct(sg wh z re:Int)(le:Int)(_:Int):Int:=cond ((sg*le).fmod z !=sg*re) (le+wh) le
def LM(sg re:Int)(le:Int)(_:Int):Prop:=aH le
structure Ik(sg z:Int)(s:jM)(w:List Nat)(v:Int×Int):Prop where
 lw:w.length≤1000000
 lb:(w.flatMap uY).length≤bS
 lj:(sB w).length≤bS
 ij:(PySem.intText? ⟨(sB w).toArray⟩).isSome=true∧(sB w).length≤640
 dv:uH (jE w) (sg*z) 3=some v
 gs:aH sg
 zs:aH z
 z0:z≠0
 rs:aY 0 z 1=true
 gr:aH v.2
 run:gw (LM sg v.2) (Ct sg s.wh z v.2) (iO z) s.le ((iO z).foldl (Ct sg s.wh z v.2) s.le)
 sw:aH s.wh
 so:aH v.1
 sp:aH (v.1*sg)
 ls:(s.sh++[(z,v.1*sg*z+v.2)]).length≤bS
theorem Nn{s:jM}{w:List Nat}{v:Int×Int}(h:Ik sg z s w v):Goes (bf (fb G3 (n+13) 28) [cZ oy 0] gI (jF l sg s (.str [x]) (.int z) (.str w) .unb .unb .unb [])) .next (jF l sg s (.str [x]) (.int z) (.str w) (.int v.1) (.int v.2) .unb []):=fun K d q=>
 ⟨.r (.lst .str (w.flatMap uY)) (jF l sg s (.str [x]) (.int z) (.str w) .unb .unb .unb []):: .r (two v.1 v.2) []::d,
  ok (by kernel_rfl) (ai (HM (n:=n+13) (l:=l) (sg:=sg) (x:=x) (z:=z) (s:=s) h.lw h.lb) (ai h.lj (ai h.ij (ai (⟨h.gs,h.zs⟩:aH sg∧aH z) (ai (H1 (j:=n) (k:=3) h.dv) q)))))⟩
theorem CH{s:jM}{w:List Nat}{v:Int×Int}(h:Ik sg z s w v)(le t:Int)(hl:LM sg v.2 le t): ∃f hp1,eF (eE G3 n 27 w8 gI (.int t) (jF l sg ⟨s.sh,le,s.wh⟩ (.str [x]) (.int z) (.str w) (.int v.1) (.int v.2) .unb [])) f hp1∧(f= .next∨f= .cont)∧
  ∀(next:Hp→Ds→Prop) ds,next (jF l sg ⟨s.sh,Ct sg s.wh z v.2 le t,s.wh⟩ (.str [x]) (.int z) (.str w) (.int v.1) (.int v.2) .unb []) ds→gB 5 [] (forget 3 [nm "turn"] hp1) fun M hp=>next hp ds:=by
 refine⟨.next,jF l sg ⟨s.sh,Ct sg s.wh z v.2 le t,s.wh⟩ (.str [x]) (.int z) (.str w) (.int v.1) (.int v.2) (.int t) [],?_,.inl rfl,fun next ds q=>ok (by kernel_rfl) q⟩
 unfold Ct
 induction y:((sg*le).fmod z !=sg*v.2)using ah with
 |false=>exact⟨[.b false],ok (by kernel_rfl) (ai (⟨h.gs,hl⟩:aH sg∧aH le) (ai h.z0 (ai (⟨h.gs,h.gr⟩:aH sg∧aH v.2) (ai y (rr Fl.next (jF l sg ⟨s.sh,le,s.wh⟩ (.str [x]) (.int z) (.str w) (.int v.1) (.int v.2) (.int t) []))))))⟩
 |true=>exact⟨[.b true],ok (by kernel_rfl) (ai (⟨h.gs,hl⟩:aH sg∧aH le) (ai h.z0 (ai (⟨h.gs,h.gr⟩:aH sg∧aH v.2) (ai y (rr Fl.next (jF l sg ⟨s.sh,le+s.wh,s.wh⟩ (.str [x]) (.int z) (.str w) (.int v.1) (.int v.2) (.int t) []))))))⟩
noncomputable def Kn(sg z:Int)(s:jM)(v:Int×Int):Int:=(iO z).foldl (Ct sg s.wh z v.2) s.le
theorem Nk{s:jM}{w:List Nat}{v:Int×Int}(h:Ik sg z s w v):Goes (bf (fb G3 n 28) [w8] gI (jF l sg s (.str [x]) (.int z) (.str w) (.int v.1) (.int v.2) .unb [])) .next (jF l sg ⟨s.sh,Kn sg z s v,s.wh⟩ (.str [x]) (.int z) (.str w) (.int v.1) (.int v.2) .unb []):=by
 obtain⟨d,q⟩:=fP (turn:=eE G3 n 27 w8 gI) (okf:=fun M p=>p) (m:=5) (fr:=3) (names:=[nm "turn"]) (e:=V.int) (H:=fun le=>jF l sg ⟨s.sh,le,s.wh⟩ (.str [x]) (.int z) (.str w) (.int v.1) (.int v.2) .unb []) (fun M M p=>p) (fun le t hl=>CH (n:=n) (l:=l) (x:=x) h le t hl) (iO z) h.run
  (fun f h' M=>f= .next∧h'=jF l sg ⟨s.sh,Kn sg z s v,s.wh⟩ (.str [x]) (.int z) (.str w) (.int v.1) (.int v.2) .unb []) [] ⟨rfl,rfl⟩
 have f:eF (ka G3 n 27 w8 gI (jF l sg s (.str [x]) (.int z) (.str w) (.int v.1) (.int v.2) .unb [])) .next (jF l sg ⟨s.sh,Kn sg z s v,s.wh⟩ (.str [x]) (.int z) (.str w) (.int v.1) (.int v.2) .unb []):=⟨d,ok (by kernel_rfl) (ai h.zs (ai h.rs q))⟩
 exact fun K d q=>⟨.l .next (jF l sg ⟨s.sh,Kn sg z s v,s.wh⟩ (.str [x]) (.int z) (.str w) (.int v.1) (.int v.2) .unb [])::d,ok (by kernel_rfl) (ai f q)⟩
noncomputable def HW(sg z:Int)(s:jM)(v:Int×Int):jM:=⟨s.sh++[(z,v.1*sg*z+v.2)],Kn sg z s v,s.wh*z⟩
theorem Nm{s:jM}{w:List Nat}{v:Int×Int}(h:Ik sg z s w v):Goes (bf (fb G3 n 28) (oy.drop 2) gI (jF l sg ⟨s.sh,Kn sg z s v,s.wh⟩ (.str [x]) (.int z) (.str w) (.int v.1) (.int v.2) .unb [])) .next (jF l sg (HW sg z s v) (.str [x]) (.int z) (.str w) (.int v.1) (.int v.2) .unb []):=fun K d q=>
 ⟨d,ok (by kernel_rfl) (ai (⟨h.sw,h.zs⟩:aH s.wh∧aH z) (ai (⟨h.so,h.gs⟩:aH v.1∧aH sg) (ai (⟨h.sp,h.zs⟩:aH (v.1*sg)∧aH z) (ai h.ls q))))⟩
theorem Ni{s:jM}{w:List Nat}{v:Int×Int}(h:Ik sg z s w v):Goes (bf (fb G3 (n+13) 28) oy gI (jF l sg s (.str [x]) (.int z) (.str w) .unb .unb .unb [])) .next (jF l sg (HW sg z s v) (.str [x]) (.int z) (.str w) (.int v.1) (.int v.2) .unb []):=
 ca (by kernel_rfl:oy=cZ oy 0::w8::oy.drop 2) (Nn h) (ca rfl (Nk h) (Nm h))
noncomputable def za(sg z:Int)(w:List Nat):Int×Int:=(uH (jE w) (sg*z) 3).getD (0,0)
noncomputable def HV(l:List (den HT))(sg:Int)(s:jM)(p:Nat×Int):jM:=cD s (fun w=>HW sg p.2 s (za sg p.2 w)) (fo l [p.1])
structure Cq(l:List (den HT))(sg:Int)(s:jM)(p:Nat×Int):Prop where
 h:FF l [p.1]
 w: ∀w,fo l [p.1]=some w→Ik sg p.2 s w (za sg p.2 w)
noncomputable def FX(sg z:Int)(o:Option (List Nat)):V×V×V:=cD (V.none,V.unb,V.unb) (fun w=>(V.str w,V.int (za sg z w).1,V.int (za sg z w).2)) o
noncomputable def sC(sg z:Int)(s:jM)(o:Option (List Nat)):jM:=cD s (fun w=>HW sg z s (za sg z w)) o
theorem Nl{s:jM}{o:Option (List Nat)}(h: ∀w,o=some w→Ik sg z s w (za sg z w)):Goes (bf (fb G3 (n+13) 29) [Eb] gI (jF l sg s (.str [x]) (.int z) (cD V.none V.str o) .unb .unb .unb [])) .next (jF l sg (sC sg z s o) (.str [x]) (.int z) (FX sg z o).1 (FX sg z o).2.1 (FX sg z o).2.2 .unb []):=fun K d q=>by
 induction o using aw with
 |none=>exact⟨.t::d,ok (by kernel_rfl) q⟩
 |some w=>
  obtain⟨d,q⟩:=Ni (n:=n) (l:=l) (x:=x) (h w rfl) K d q
  exact⟨.t::d,ok (by kernel_rfl) q⟩
theorem F9(s:jM)(p:Nat×Int)(h:Cq l sg s p): ∃f hp1,eF (eE G3 (n+13) 29 Bs gI (.tc (.str [p.1]) (.tc (.int p.2) .t0)) (jF l sg s .unb .unb .unb .unb .unb .unb [])) f hp1∧(f= .next∨f= .cont)∧
  ∀(next:Hp→Ds→Prop) ds,next (jF l sg (HV l sg s p) .unb .unb .unb .unb .unb .unb []) ds→gB 5 [] (forget 3 [nm "name",nm "size",nm "word",nm "often",nm "rest"] hp1) fun M hp=>next hp ds:=by
 have e:AU=cZ AU 0::[Eb]:=by kernel_rfl
 obtain⟨ds,z⟩:=ca e (Ng (n:=n+11) (l:=l) (sg:=sg) (x:=p.1) (z:=p.2) (s:=s) h.h rfl) (Nl (n:=n) (x:=p.1) h.w) (fun f h' M=>f= .next∧h'=jF l sg (HV l sg s p) (.str [p.1]) (.int p.2) (FX sg p.2 (fo l [p.1])).1 (FX sg p.2 (fo l [p.1])).2.1 (FX sg p.2 (fo l [p.1])).2.2 .unb []) [] ⟨rfl,rfl⟩
 exact⟨.next,jF l sg (HV l sg s p) (.str [p.1]) (.int p.2) (FX sg p.2 (fo l [p.1])).1 (FX sg p.2 (fo l [p.1])).2.1 (FX sg p.2 (fo l [p.1])).2.2 .unb [],⟨ds,ok (by kernel_rfl) z⟩,.inl rfl,fun next ds k=>by
  generalize HV l sg s p=s1 at k ⊢
  induction fo l [p.1]using aw with
  |none=>exact ok (by kernel_rfl) k
  |some w=>exact ok (by kernel_rfl) k⟩
noncomputable def Gq:List (Nat×Int):=[(97,5),(98,7),(99,8),(100,9),(101,11),(102,13),(103,17)]
theorem No{s t:jM}(h:gw (Cq l sg) (HV l sg) Gq s t):Goes (bf (fb G3 (n+13) 30) [Bs] gI (jF l sg s .unb .unb .unb .unb .unb .unb [])) .next (jF l sg t .unb .unb .unb .unb .unb .unb []):=by
 obtain⟨d,q⟩:=fP (turn:=eE G3 (n+13) 29 Bs gI) (okf:=fun M p=>p) (m:=5) (fr:=3) (names:=[nm "name",nm "size",nm "word",nm "often",nm "rest"]) (e:=fun p:Nat×Int=> .tc (.str [p.1]) (.tc (.int p.2) .t0)) (H:=fun s=>jF l sg s .unb .unb .unb .unb .unb .unb []) (fun M M p=>p) (F9 (n:=n)) Gq h
  (fun f h' M=>f= .next∧h'=jF l sg t .unb .unb .unb .unb .unb .unb []) [] ⟨rfl,rfl⟩
 have f:eF (ka G3 (n+13) 29 Bs gI (jF l sg s .unb .unb .unb .unb .unb .unb [])) .next (jF l sg t .unb .unb .unb .unb .unb .unb []):=⟨d,ok (by kernel_rfl) q⟩
 exact fun K d q=>⟨.l .next (jF l sg t .unb .unb .unb .unb .unb .unb [])::d,ok (by kernel_rfl) (ai f q)⟩
end
section
variable{n:Nat}{l:List (den HT)}{sg:Int}{x:Nat}{z:Int}
noncomputable def sq(l:List (den HT))(sg:Int)(s:jM)(u:List (den PI))(o tu be:V)(r:List AO):Hp:=O8 l (O0 sg (.own 4) (.int s.le) (.int s.wh) .unb .unb .unb o .unb tu (.own 5) be) (.list PI s.sh:: .list PI u::r)
theorem Nj{s:jM}(h1:aH sg)(h2:aH s.wh)(h3:aH s.le):Goes (bf (fb G3 n 30) [cZ (b6 (gS "_law_chain")) 2] gI (jF l sg s .unb .unb .unb .unb .unb .unb [])) .next (sq l sg s [(sg*s.wh,0),(sg*s.le,1)] .unb .unb .unb []):=fun K d q=>
 ⟨d,ok (by kernel_rfl) (ai (⟨h1,h2⟩:aH sg∧aH s.wh) (ai (⟨h1,h3⟩:aH sg∧aH s.le) (ai (by decide:2≤bS) q)))⟩
noncomputable def ya:bP:=cZ (b6 (gS "_law_chain")) 3
noncomputable def n8:bP:=cZ (Mh ya) 0
noncomputable def o9:List bP:=bT n8 true
noncomputable abbrev kR(u:List (den PI))(i:Int):den PI:=getD u i (nu PI)
noncomputable def um(u:List (den PI)):Int×Int:=(uH (kR u (-2)).1 (kR u (-1)).1 3).getD (0,0)
noncomputable def z7(u:List (den PI))(_:Int):List (den PI):=u++[((um u).2,(kR u (-2)).2-(um u).1*(kR u (-1)).2)]
structure Cl(u:List (den PI))(t:Int):Prop where
 a:fy u.length (-2)
 b:fy u.length (-1)
 e:uH (kR u (-2)).1 (kR u (-1)).1 3=some (um u)
 q:aH (um u).1
 k:aH (kR u (-1)).2
 z:(z7 u t).length≤bS
theorem Nh{s:jM}{u:List (den PI)}{t:Int}(h:Cl u t):Goes (bf (fb G3 (n+13) 29) o9 gI (sq l sg s u .unb (.int t) .unb [])) .next (sq l sg s (z7 u t) (.int (um u).1) (.int t) (.int (um u).2) []):=fun K d q=>
 ⟨.r (two (um u).1 (um u).2) []::d,ok (by kernel_rfl) (ai h.a (ai (rfl:fy 2 0) (ai h.b (ai (rfl:fy 2 0) (ai (H1 (j:=n) (k:=3) h.e) (ai h.a (ai (rfl:fy 2 1) (ai h.b (ai (rfl:fy 2 1) (ai (⟨h.q,h.k⟩:aH (um u).1∧aH (kR u (-1)).2) (ai h.z q)))))))))))⟩
noncomputable def CR:Expr:=match n8 with
 | .For t M Δ Θ Λ=>t
 |M=>cV n8
noncomputable def EB:Expr:=pH (cV (cZ o9 0)) [0]
noncomputable def xF:List Expr:=[pH (cV (cZ o9 0)) [1],pH (cV (cZ o9 0)) [2]]
noncomputable def qZ:List Expr:=[.Name (nm "shares") ⟨320,16,320,22⟩,.Name (nm "least") ⟨320,24,320,29⟩,.Name (nm "whole") ⟨320,31,320,36⟩,.Name (nm "run") ⟨320,38,320,41⟩]
noncomputable def KR:ExceptHandler:= .ExceptHandler (some (.Name jv ⟨319,11,319,28⟩)) none [.Return (some (.Tuple qZ 0 ⟨320,15,320,42⟩)) ⟨320,8,320,42⟩] ⟨319,4,320,42⟩
theorem Bg:ya= .Try [n8] [KR] [] [] ⟨315,4,320,42⟩:=by kernel_rfl
def tz(n:Nat)(x:V)(hp:Hp)(ds:Ds)(K:KF):Prop:=Iq G3 (fb G3 n 29) CR o9 EB xF qZ gI x hp ds K
theorem F3{s:jM}(u:List (den PI))(t:Int)(h:Cl u t): ∃f hp1,eF (tz (n+13) (.int t) (sq l sg s u .unb .unb .unb [])) f hp1∧(f= .next∨f= .cont)∧
  ∀(next:Hp→Ds→Prop) ds,next (sq l sg s (z7 u t) .unb .unb .unb []) ds→gB 6 [] (forget 3 [nm "turn",nm "often",nm "behind"] hp1) fun M hp=>next hp ds:=by
 refine(Nh (n:=n) (l:=l) (sg:=sg) (s:=s) h (fun f h' M=>f= .next∧h'=sq l sg s (z7 u t) (.int (um u).1) (.int t) (.int (um u).2) []) [] ⟨rfl,rfl⟩).elim fun ds z=> ?_
 exact⟨.next,sq l sg s (z7 u t) (.int (um u).1) (.int t) (.int (um u).2) [],⟨ds,ok (by kernel_rfl) (Or.inl z:bf (fb G3 (n+13) 29) o9 gI (sq l sg s u .unb (.int t) .unb []) ds (fun f h' M=>f= .next∧h'=sq l sg s (z7 u t) (.int (um u).1) (.int t) (.int (um u).2) [])∨
  Fj G3 (fb G3 (n+13) 29) EB xF qZ gI (sq l sg s u .unb (.int t) .unb []) ds (fun f h' M=>f= .next∧h'=sq l sg s (z7 u t) (.int (um u).1) (.int t) (.int (um u).2) []))⟩,.inl rfl,fun next ds k=>ok (by kernel_rfl) k⟩
noncomputable def ph(s:jM)(u:List (den PI)):V:= .tc (.own 4) (.tc (.int s.le) (.tc (.int s.wh) (.tc (.own 5) .t0)))
noncomputable def Cw(l:List (den HT))(sg:Int)(s:jM)(u:List (den PI))(t:Int):Hp:=sq l sg s u .unb (.int t) .unb [.loc [(nm "a",.int (kR u (-2)).1),(nm "b",.int (kR u (-1)).1),(nm "q",.unb),(nm "r",.unb)]]
noncomputable def Qq:Fn:=(mM.lookup 80).getD ⟨qA,[],false,false⟩
noncomputable def PR:bP:=cZ (b6 (gS "int_divmod")) 0
theorem Jv{s:jM}{u:List (den PI)}{t:Int}(h1:fy u.length (-2))(h2:fy u.length (-1))(h0:((kR u (-1)).1==0)=true):eF (tz n (.int t) (sq l sg s u .unb .unb .unb [])) (.ret (ph s u)) (Cw l sg s u t):=by
 have r:lT G3 [.int (kR u (-2)).1,.int (kR u (-1)).1] (sq l sg s u .unb (.int t) .unb []) (fun hp=>fN (mF G3 gI hp qZ) fun vs=>bz vs.length bS=true∧(Fl.ret (rN vs)=Fl.ret (ph s u)∧hp=Cw l sg s u t)) (.val (.ref 80)):=
  lT.mk (G:=G3) 80 Qq [(nm "a",.int (kR u (-2)).1),(nm "b",.int (kR u (-1)).1)] (cV PR) ⟨71,14,71,31⟩ ⟨71,8,71,31⟩ ⟨70,4,79,32⟩ (bT PR false) [] (by kernel_rfl) (by kernel_rfl) (by kernel_rfl) (by kernel_rfl)
   (ok (by kernel_rfl) (ai h0 (ai (rfl:true=true) (ai (rfl:Fl.ret (ph s u)=Fl.ret (ph s u)) (rfl:Cw l sg s u t=Cw l sg s u t)))))
 have b:Fj G3 (fb G3 n 29) EB xF qZ gI (sq l sg s u .unb (.int t) .unb []) [] (fun f h' M=>f= .ret (ph s u)∧h'=Cw l sg s u t):=
  ok (by kernel_rfl) (ai h1 (ai (rfl:fy 2 0) (ai h2 (ai (rfl:fy 2 0) r))))
 exact⟨[],ok (by kernel_rfl) (Or.inr b:bf (fb G3 n 29) o9 gI (sq l sg s u .unb (.int t) .unb []) [] (fun f h' M=>f= .ret (ph s u)∧h'=Cw l sg s u t)∨Fj G3 (fb G3 n 29) EB xF qZ gI (sq l sg s u .unb (.int t) .unb []) [] (fun f h' M=>f= .ret (ph s u)∧h'=Cw l sg s u t))⟩
noncomputable def Dd(s:jM)(u:List (den PI)):V:= .tc (.lst PI s.sh) (.tc (.int s.le) (.tc (.int s.wh) (.tc (.lst PI u) .t0)))
theorem yJ{α σ:Type}{e:α→V}{m fr:Nat}{names:List Str}{hp:Hp}{turn:V→Hp→Ds→KF→Prop}{okf:Hp→Prop→Prop}{okP:σ→α→Prop}{step:σ→α→σ}{H:σ→Hp}(hok: ∀s p,p→okf (H s) p)
  (h: ∀s x,okP s x→∃f hp1,eF (turn (e x) (H s)) f hp1∧(f= .next∨f= .cont)∧∀(next:Hp→Ds→Prop) ds,next (H (step s x)) ds→gB m [] (forget fr names hp1) fun M hp=>next hp ds) {x:α} {post:List α} {f:Fl} (pre:List α):
  ∀{s t},gw okP step pre s t→eF (turn (e x) (H t)) f hp→∀(K:KF) d,(∀next,pY m fr K next f hp d)→∃d',kE turn okf m fr ((pre++x::post).map e) (H s) d' K:=by
 induction pre with
 |nil=>exact fun{s t} q hr K d k=>⟨.l f hp::d,hok s _ ⟨(show s=t from q)▸hr,k _⟩⟩
 |cons y pre ih=>
  intro s t q hr K d k
  refine(h s y q.1).elim fun f zz=>zz.elim fun hp1 zz=>zz.elim fun hr1 zz=>zz.elim fun hf hw=> ?_
  refine(ih q.2 hr K d k).elim fun d' q=> ?_
  have q:=hw (fun hp ds=>kE turn okf m fr ((pre++x::post).map e) hp ds K) _ q
  exact⟨.l f hp1:: .g names::d',hok s _ ⟨hr1,hf.elim (fun z=>z▸q) fun z=>z▸q⟩⟩
structure Jh(s:jM)(sg:Int)(u:List (den PI)):Prop where
 r: ∃pre x post,iO 40=pre++x::post∧gw Cl z7 pre [(sg*s.wh,0),(sg*s.le,1)] u
 a:fy u.length (-2)
 b:fy u.length (-1)
 z:((kR u (-1)).1==0)=true
theorem Ge{s:jM}{u:List (den PI)}(h:Jh s sg u): ∃t,eF (JB G3 (n+13) 29 ya gI (sq l sg s [(sg*s.wh,0),(sg*s.le,1)] .unb .unb .unb [])) (.ret (ph s u)) (Cw l sg s u t):=by
 refine h.r.elim fun pre zz=>zz.elim fun x zz=>zz.elim fun post zz=>zz.elim fun e r=> ?_
 refine⟨x,?_⟩
 obtain⟨d,q⟩:=yJ (turn:=tz (n+13)) (okf:=fun M p=>p) (m:=6) (fr:=3) (names:=[nm "turn",nm "often",nm "behind"]) (e:=V.int) (H:=fun u=>sq l sg s u .unb .unb .unb []) (fun M M p=>p) (F3 (n:=n) (l:=l) (sg:=sg) (s:=s)) (x:=x) (post:=post) pre r (Jv (n:=n+13) h.a h.b h.z)
  (fun f h' M=>f= .ret (ph s u)∧h'=Cw l sg s u x) [] (fun M=>⟨rfl,rfl⟩)
 rw[←e]at q
 refine⟨d,?_⟩
 rw[Bg]
 have key:(fb G3 (n+13) 29).ev (cV n8) gI (sq l sg s [(sg*s.wh,0),(sg*s.le,1)] .unb .unb .unb []) d fun v hp ds=>Bl hp v fun xs ok=>kE (tz (n+13)) ok hp.length gI.fr xs hp ds (fun f h' M=>f= .ret (ph s u)∧h'=Cw l sg s u x):=
  ok (by kernel_rfl) (ai (bU (i:=40) rfl) (ai (rfl:aY 0 40 1=true) q))
 exact Or.inr (Or.inl (Id.mk CR (cV n8) (.Tuple [.Name (nm "often") ⟨317,12,317,17⟩,.Name (nm "behind") ⟨317,19,317,25⟩] 0 ⟨317,12,317,25⟩) EB xF qZ [cZ o9 1] 0 ⟨317,28,317,62⟩ ⟨317,12,317,62⟩ ⟨316,8,318,65⟩ ⟨319,11,319,28⟩ ⟨320,15,320,42⟩ ⟨320,8,320,42⟩ ⟨319,4,320,42⟩ rfl rfl rfl rfl (by kernel_rfl) (by kernel_rfl) key))
structure vF(l:List (den HT))(sg:Int)(s:jM)(u:List (den PI)):Prop where
 r:gw (Cq l sg) (HV l sg) Gq ⟨[],0,1⟩ s
 g:aH sg
 w:aH s.wh
 l:aH s.le
 u:Jh s sg u
theorem Ps{s:jM}{u:List (den PI)}(h:vF l sg s u):gn (C3 (n+14) 329 [.own 0,.int sg] (hH l)) (Dd s u) (hH l):=by
 refine(Ge (n:=n) (l:=l) h.u).elim fun t f=> ?_
 have g1:Goes (bf (fb G3 (n+13) 30) ((b6 (gS "_law_chain")).drop 3) gI (sq l sg s [(sg*s.wh,0),(sg*s.le,1)] .unb .unb .unb [])) (.ret (ph s u)) (Cw l sg s u t):=fun K d q=>⟨.l (.ret (ph s u)) (Cw l sg s u t)::d,ok (by kernel_rfl) (ai f q)⟩
 have e0:b6 (gS "_law_chain")=cZ (b6 (gS "_law_chain")) 0::Bs::cZ (b6 (gS "_law_chain")) 2::(b6 (gS "_law_chain")).drop 3:=by kernel_rfl
 exact As (fn:=(mM.lookup 329).getD ⟨qA,[],false,false⟩) (bs:=[(nm "table",.own 0),(nm "sign",.int sg)]) (l:=b6 (gS "_law_chain")) (Γ:=gI) (by kernel_rfl) (by kernel_rfl) (by kernel_rfl) (by kernel_rfl) (hp0:=hH l) (hp1:=PZ l sg) (fun K k=>ok (by kernel_rfl) k)
  (ca e0 Np (ca rfl (No h.r) (ca rfl (Nj h.g h.w h.l) g1))) (fun K k=>ok (by kernel_rfl) k)
end
noncomputable def bL:List bP:=b6 (gS "law")
noncomputable def cB:Cx:=rK (gS "law") 0 [] false
noncomputable def xE:List Int:=[1433,1496,518,1164,161,1266,773,283,72,664]
noncomputable def vB:V:= .tc (.int 1433) (.tc (.int 1496) (.tc (.int 518) (.tc (.int 1164) (.tc (.int 161) (.tc (.int 1266) (.tc (.int 773) (.tc (.int 283) (.tc (.int 72) (.tc (.int 664) .t0)))))))))
noncomputable def O5:List Str:=[nm "cells",nm "text",nm "end",nm "lineno",nm "left",nm "first",nm "due",nm "table",nm "said",nm "heard",nm "run",nm "common",nm "one",nm "value",nm "fits",nm "behind",nm "factor",nm "rest",nm "wrong",nm "lack"]
noncomputable def OS(n:List Str):List V→List (Str×V):=ej (motive:=fun M=>List V→List (Str×V)) (fun M=>[]) (fun x M r l=>(x,l.headD .unb)::r l.tail) n
noncomputable def OT(n:Nat):List V→List AO→List AO:=Nat.rec (motive:=fun M=>List V→List AO→List AO) (fun M r=>r) (fun M f l r=> .cell (l.headD .unb)::f l.tail r) n
noncomputable def Cv(ns:List Int)(l c:List V)(r:List AO):Hp:= .loc (OS O5 l):: .cell (.lst .int ns)::OT 13 c r
noncomputable def Aq(ns:List Int)(r:List AO):Hp:=Cv ns [] [vB] r
noncomputable def LY:Expr:=cV (cZ bL 1)
noncomputable def LS(ns:List Int):Int:=cond (LT 60 ns.length) 60 ns.length
noncomputable def B5(ns:List Int)(k:Int):List Int:=eR k 10 (fk k (LS ns) 10)
noncomputable def Lx(ns:List Int)(j:Int):List Int:=[(getD ns j 0).fmod 5040]
noncomputable def zg(ns:List Int)(k:Int):List Int:=(B5 ns k).flatMap (Lx ns)
structure xN(ns:List Int)(k:Int):Prop where
 sk:aH k
 se:aH (LS ns)
 ran:aY k (LS ns) 10=true
 len:(B5 ns k).length≤1000000
 ix: ∀j∈B5 ns k,fy ns.length j
 lz:(zg ns k).length≤bS
 sm: ∀i∈zg ns k,i.natAbs<2^32
theorem EU{n:Nat}{ns:List Int}{k:Int}(h:xN ns k):gn (eH G3 n 25 (pH LY [0,1,1]) (gP LY cB 15) (Aq ns [fh "k" (.int k)])) (.lst .int (zg ns k)) (Aq ns [fh "k" (.int k)]):=
 dw (e:=V.int) (names:=[nm "j"]) (l:=B5 ns k) (Γc:=gP (pH LY [0,1,1]) (gP LY cB 15) 16) (hp1:=Aq ns [fh "k" (.int k),fh "j" .unb]) (H:=Aq ns [fh "k" (.int k),fh "j" .unb]) (own:=false) (u:= .int) (f:=Lx ns) (okf:=fun M p=>p)
  (fun ds K q=>ok (by kernel_rfl) (ai (ai h.sk (ai h.se (ai (by decide:(10:Int).natAbs<2^30) (by decide:(10:Int)≠0)))) (ai h.ran q))) h.len (fun M M M p=>p) (by kernel_rfl)
  (fun j hj=>⟨Aq ns [fh "k" (.int k),fh "j" (.int j)],⟨[],ok (by kernel_rfl) (ai (h.ix j hj) (ai (by decide:(5040:Int)≠0) (rc (u:= .int) (Lx ns j) (Aq ns [fh "k" (.int k),fh "j" (.int j)]))))⟩,by kernel_rfl⟩)
  fun K ds k=>ok (by kernel_rfl) (ai h.lz k)
noncomputable def xx(ns:List Int)(k:Int):Int:=getD xE k 0+(zg ns k).sum
noncomputable def N7(ns:List Int)(k:Int):List Int:=[xx ns k]
noncomputable def qc:List Int:=[0,1,2,3,4,5,6,7,8,9]
noncomputable def gg(ns:List Int):List Int:=qc.map (xx ns)
theorem HK{n:Nat}{ns:List Int}(h: ∀k∈qc,xN ns k∧fy 10 k):gn (eH G3 n 28 LY cB (Aq ns [])) (.lst .int (gg ns)) (Aq ns []):=
 dw (e:=V.int) (names:=[nm "k"]) (l:=qc) (Γc:=gP LY cB 15) (hp1:=Aq ns [fh "k" .unb]) (H:=Aq ns [fh "k" .unb]) (own:=false) (u:= .int) (f:=N7 ns) (okf:=fun M p=>p)
  (fun ds K q=>ok (by kernel_rfl) (ai (bU (i:=10) rfl) (ai (rfl:aY 0 10 1=true) q))) (by decide) (fun M M M p=>p) (by kernel_rfl)
  (fun k hk=>⟨Aq ns [fh "k" (.int k)],⟨[.r (.lst .int (zg ns k)) (Aq ns [fh "k" (.int k)])],ok (by kernel_rfl) (ai (h k hk).2 (ai (EU (n:=n) (h k hk).1) (ai (h k hk).1.sm (rc (u:= .int) (N7 ns k) (Aq ns [fh "k" (.int k)])))))⟩,by kernel_rfl⟩)
  fun K ds k=>ok (by kernel_rfl) (ai (by decide:10≤bS) k)
section
variable{n:Nat}{ns:List Int}
theorem Mx(h: ∀k∈qc,xN ns k∧fy 10 k):Goes (bf (fb G3 n 30) (bL.take 2) cB (Cv ns [] [] [])) .next (Cv ns [.lst .int (gg ns)] [vB] []):=fun K d k=>
 ⟨.r (.lst .int (gg ns)) (Aq ns [])::d,ok (by kernel_rfl) (ai (HK (n:=n) h) k)⟩
end
section
variable{n:Nat}{ns C:List Int}{R:List (den RW)}{sg:Int}
noncomputable def IB(C:List Int):Int:=1-((getD C 0 0).fdiv 1008).fmod 2*2
structure PK(C:List Int):Prop where
 i:fy C.length 0
 s:aH (getD C 0 0)
 f:aH (((getD C 0 0).fdiv 1008).fmod 2)
theorem Mw(h:gn (C3 n 300 [.lst .int C] []) (.lst RW R) [])(g:PK C):Goes (bf (fb G3 n 30) [cZ bL 2] cB (Cv ns [.lst .int C] [vB] [])) .next (Cv ns [.lst .int C] [vB,.unb,.lst RW R,.int (IB C)] []):=fun K d q=>
 ⟨.r (.lst RW R) []::d,ok (by kernel_rfl) (ai h (ai g.i (ai (⟨by decide,g.s,by decide⟩:dv (getD C 0 0) 1008) (ai (by decide:(2:Int)≠0) (ai (⟨g.f,bU (i:=2) rfl⟩:aH (((getD C 0 0).fdiv 1008).fmod 2)∧aH 2) q)))))⟩
noncomputable def I0(ns C:List Int)(R:List (den RW))(sg:Int)(r:List AO):Hp:=Cv ns [.lst .int C] [vB,.unb,.lst RW R,.int sg] r
noncomputable def vG(ns C:List Int)(R:List (den RW))(sg:Int)(T:List (List Nat))(r:List AO):Hp:=Cv ns [.lst .int C] [vB,.unb,.lst RW R,.int sg,.lst .str T] r
noncomputable def eT:Expr:=cV (cZ bL 3)
noncomputable abbrev mr(r:den RW):Int:=r.2.2.2.2.2
noncomputable def NG(r:den RW):List Nat:=Hq (md (mr r)++r.2.1) r.2.2.1 ((mr r).fmod 2)
noncomputable def FN(r:den RW):List (List Nat):=[NG r]
noncomputable def FK(r:den RW):List Nat:=FU r.2.1 r.2.2.1 (mr r)
noncomputable def rM(r:den RW):List (List Nat):=[FK r]
structure xL(r:den RW):Prop where
 s:aH (mr r)
 b:aH (((mr r).fdiv 4).fmod 2)∧(((mr r).fdiv 4).fmod 2).toNat≤bS
 l:(md (mr r)++r.2.1).length≤bS
 f:zK (md (mr r)++r.2.1) r.2.2.1
 w:Ia r.2.1 r.2.2.1 (mr r)
 e:NG r=FK r
 o:jP .str (FK r)=true
theorem N3(h: ∀r∈R,xL r)(hz:R.length≤1000000)(hb:(R.flatMap FN).length≤bS):gn (eH G3 (n+1) 28 eT cB (I0 ns C R sg [])) (.lst .str (R.flatMap FN)) (I0 ns C R sg []):=
 dw (e:=emb RW) (names:=[nm "row"]) (l:=R) (Γc:=gP eT cB 15) (hp1:=I0 ns C R sg [fh "row" .unb]) (H:=I0 ns C R sg [fh "row" .unb]) (own:=false) (u:= .str) (f:=FN) (okf:=fun M p=>p)
  (fun ds K q=>ok (by kernel_rfl) q) hz (fun M M M p=>p) (by kernel_rfl)
  (fun r hr=>have g:=h r hr;⟨I0 ns C R sg [fh "row" (emb RW r)],⟨[.r (.str (NG r)) []],ok (by kernel_rfl) (ai (⟨by decide,g.s,by decide⟩:dv (mr r) 4) (ai (by decide:(2:Int)≠0) (ai g.b (ai g.l (ai (by decide:(2:Int)≠0) (ai (PB (n:=n) (q:=(mr r).fmod 2) g.f) (rc (u:= .str) (FN r) (I0 ns C R sg [fh "row" (emb RW r)]))))))))⟩,by kernel_rfl⟩)
  fun K ds k=>ok (by kernel_rfl) (ai hb k)
theorem Mv(h: ∀r∈R,xL r)(hz:R.length≤1000000)(hb:(R.flatMap FN).length≤bS):Goes (bf (fb G3 (n+1) 30) [cZ bL 3] cB (I0 ns C R sg [])) .next (vG ns C R sg (R.flatMap FN) []):=fun K d q=>
 ⟨.r (.lst .str (R.flatMap FN)) (I0 ns C R sg [])::d,ok (by kernel_rfl) (ai (N3 (n:=n) (ns:=ns) (C:=C) (sg:=sg) h hz hb) q)⟩
noncomputable def e4:Expr:=pH (cV (cZ bL 4)) [1]
theorem N2{T:List (List Nat)}(h: ∀r∈R,xL r)(hz:R.length≤1000000)(hb:(R.flatMap rM).length≤bS):gn (eH G3 (n+1) 27 e4 cB (vG ns C R sg T [])) (.lst .str (R.flatMap rM)) (vG ns C R sg T []):=
 dw (e:=emb RW) (names:=[nm "row"]) (l:=R) (Γc:=gP e4 cB 15) (hp1:=vG ns C R sg T [fh "row" .unb]) (H:=vG ns C R sg T [fh "row" .unb]) (own:=false) (u:= .str) (f:=rM) (okf:=fun M p=>p)
  (fun ds K q=>ok (by kernel_rfl) q) hz (fun M M M p=>p) (by kernel_rfl)
  (fun r hr=>⟨vG ns C R sg T [fh "row" (emb RW r)],⟨[.r (.str (FK r)) []],ok (by kernel_rfl) (ai (Pw (n:=n) (h r hr).w) (rc (u:= .str) (rM r) (vG ns C R sg T [fh "row" (emb RW r)])))⟩,by kernel_rfl⟩)
  fun K ds k=>ok (by kernel_rfl) (ai hb k)
theorem NE(h: ∀r∈R,xL r):R.flatMap FN=R.flatMap rM:=by
 induction R with
 |nil=>rfl
 |cons r R ih=>
  show NG r::R.flatMap FN=FK r::R.flatMap rM
  rw[(h r (.head _)).e,ih fun x m=>h x (.tail _ m)]
theorem L7(h: ∀r∈R,xL r):jP (.list .str) (R.flatMap rM)=true:=by
 induction R with
 |nil=>rfl
 |cons r R ih=>
  show(jP .str (FK r)&&jP (.list .str) (R.flatMap rM))=true
  rw[(h r (.head _)).o,ih fun x m=>h x (.tail _ m)]
  rfl
noncomputable def MP(a b:List (List Nat)):Bool:= !PyData.eqv (dat (.list .str) a) (dat (.list .str) b)
theorem Mu(h: ∀r∈R,xL r)(hz:R.length≤1000000)(hb:(R.flatMap rM).length≤bS):Goes (bf (fb G3 (n+1) 30) [cZ bL 4] cB (vG ns C R sg (R.flatMap rM) [])) .next (vG ns C R sg (R.flatMap rM) []):=fun K d q=>by
 have o:=L7 h
 have s:=gA (t:= .list .str) o rfl
 have e:MP (R.flatMap rM) (R.flatMap rM)=false:=congrArg (!·) (io (t:= .list .str) o)
 exact⟨.r (.lst .str (R.flatMap rM)) (vG ns C R sg (R.flatMap rM) []):: .b false::d,ok (by kernel_rfl) (ai (N2 (n:=n) (ns:=ns) (C:=C) (sg:=sg) (T:=R.flatMap rM) h hz hb) (ai (⟨s,s⟩:bc (dat (.list .str) (R.flatMap rM))=true∧bc (dat (.list .str) (R.flatMap rM))=true) (ai e q)))⟩
noncomputable def e5:Expr:=pH (cV (cZ bL 5)) [1]
noncomputable def xd:List Nat:=[32,10,9]
noncomputable abbrev rw (R:List (den RW))(k:Int):den RW:=getD R k (nu RW)
noncomputable def Ox(R:List (den RW))(T:List (List Nat))(k:Int):List Nat:=getD T k []++[getD xd ((mr (rw R k)).fmod 3) 0]
noncomputable def Mg(R:List (den RW))(T:List (List Nat))(k:Int):List (List Nat):=[Ox R T k]
structure Ic(R:List (den RW))(T:List (List Nat))(k:Int):Prop where
 t:fy T.length k
 r:fy R.length k
 g:fy 3 ((mr (rw R k)).fmod 3)
 l:(Ox R T k).length≤bS
noncomputable def Mf(R:List (den RW))(T:List (List Nat)):List Nat:=gC [] (bE.flatMap (Mg R T))
theorem N1{T:List (List Nat)}(h: ∀k∈bE,Ic R T k):gn (eH G3 n 27 e5 cB (vG ns C R sg T [])) (.lst .str (bE.flatMap (Mg R T))) (vG ns C R sg T []):=
 dw (e:=V.int) (names:=[nm "k"]) (l:=bE) (Γc:=gP e5 cB 15) (hp1:=vG ns C R sg T [fh "k" .unb]) (H:=vG ns C R sg T [fh "k" .unb]) (own:=false) (u:= .str) (f:=Mg R T) (okf:=fun M p=>p)
  (fun ds K q=>ok (by kernel_rfl) (ai (bU (i:=9) rfl) (ai (rfl:aY 0 9 1=true) q))) (by decide) (fun M M M p=>p) (by kernel_rfl)
  (fun k hk=>have g:=h k hk;⟨vG ns C R sg T [fh "k" (.int k)],⟨[],ok (by kernel_rfl) (ai g.t (ai g.r (ai (by decide:(3:Int)≠0) (ai g.g (ai g.l (rc (u:= .str) (Mg R T k) (vG ns C R sg T [fh "k" (.int k)])))))))⟩,by kernel_rfl⟩)
  fun K ds k=>ok (by kernel_rfl) (ai (by decide:9≤bS) k)
noncomputable def Qz(ns C:List Int)(R:List (den RW))(sg:Int)(T:List (List Nat))(r:List AO):Hp:=Cv ns [.lst .int C,.str (Mf R T)] [vB,.unb,.lst RW R,.int sg,.lst .str T] r
theorem Mt{T:List (List Nat)}(h: ∀k∈bE,Ic R T k)(hz:(Mf R T).length≤bS):Goes (bf (fb G3 n 30) [cZ bL 5] cB (vG ns C R sg T [])) .next (Qz ns C R sg T []):=fun K d q=>
 ⟨.r (.lst .str (bE.flatMap (Mg R T))) (vG ns C R sg T [])::d,ok (by kernel_rfl) (ai (N1 (n:=n) (ns:=ns) (C:=C) (sg:=sg) (T:=T) h) (ai hz q))⟩
end
structure Cm where
 ns:List Int
 C:List Int
 R:List (den RW)
 sg:Int
 T:List (List Nat)
 x:List Nat
 P:List (den HT)
 e:List Nat
 ln:Int
 lf:List Nat
noncomputable def sr(a:Cm)(l c:List V)(r:List AO):Hp:=Cv a.ns (.lst .int a.C:: .str a.x:: .str a.e:: .int a.ln:: .lst .str (a.lf.map sg)::l) (vB:: .unb:: .lst RW a.R:: .int a.sg:: .lst .str a.T:: .lst HT a.P::c) r
noncomputable def Qy(a:Cm)(r:List AO):Hp:=Cv a.ns [.lst .int a.C,.str a.x] [vB,.unb,.lst RW a.R,.int a.sg,.lst .str a.T] r
section
variable{n:Nat}{a:Cm}
theorem Ms(h:gn (C3 n 310 [.str a.x,.int 9] []) (OR a.P a.e a.ln a.lf) []):Goes (bf (fb G3 n 30) [cZ bL 6] cB (Qy a [])) .next (sr a [] [] []):=fun K d q=>
 ⟨.r (OR a.P a.e a.ln a.lf) []::d,ok (by kernel_rfl) (ai h q)⟩
noncomputable def e7:Expr:=pH (cV (cZ bL 7)) [0,1]
noncomputable def yB(r:den RW):List (den HT):=[(r.2.1,r.2.2.1)]
theorem N0(hz:a.R.length≤1000000)(hb:(a.R.flatMap yB).length≤bS):gn (eH G3 n 26 e7 cB (sr a [] [] [])) (.lst HT (a.R.flatMap yB)) (sr a [] [] []):=
 dw (e:=emb RW) (names:=[nm "row"]) (l:=a.R) (Γc:=gP e7 cB 15) (hp1:=sr a [] [] [fh "row" .unb]) (H:=sr a [] [] [fh "row" .unb]) (own:=false) (u:=HT) (f:=yB) (okf:=fun M p=>p)
  (fun ds K q=>ok (by kernel_rfl) q) hz (fun M M M p=>p) (by kernel_rfl)
  (fun r hr=>⟨sr a [] [] [fh "row" (emb RW r)],⟨[],ok (by kernel_rfl) (rc (u:=HT) (yB r) (sr a [] [] [fh "row" (emb RW r)]))⟩,by kernel_rfl⟩)
  fun K ds k=>ok (by kernel_rfl) (ai hb k)
structure Qi(a:Cm):Prop where
 p:a.P=a.R.flatMap yB
 e:a.e=[]
 l:a.lf=[]
 n:a.ln=1+mP 10 a.x
 o:jP (.list HT) a.P=true
 z:a.R.length≤1000000
 b:(a.R.flatMap yB).length≤bS
noncomputable def MR(x y:List (den HT)):Bool:= !PyData.eqv (dat (.list HT) x) (dat (.list HT) y)
noncomputable def Qs(x y:List Nat):Bool:= !(x==y)
noncomputable def ur(x y:Int):Bool:= !(x==y)
theorem Mr(h:Qi a):Goes (bf (fb G3 n 30) [cZ bL 7] cB (sr a [] [] [])) .next (sr a [] [] []):=fun K d q=>by
 have s:=gA (t:= .list HT) h.o rfl
 have s2:bc (dat (.list HT) (a.R.flatMap yB))=true:=h.p▸s
 have n1:MR a.P (a.R.flatMap yB)=false:=h.p▸congrArg (!·) (io (t:= .list HT) h.o)
 have n2:Qs a.e []=false:=by rw[h.e];rfl
 have e3:a.lf.map sg=[]:=by rw[h.l];rfl
 have s3:bc (dat (.list .str) (a.lf.map sg))=true:=by rw[e3];rfl
 have n3:MP (a.lf.map sg) []=false:=by rw[e3];kernel_rfl
 have n4:ur a.ln (1+mP 10 a.x)=false:=by rw[h.n];exact congrArg (!·) (beq_self_eq_true _)
 exact⟨.r (.lst HT (a.R.flatMap yB)) (sr a [] [] []):: .b false:: .b false:: .b false:: .b false:: .b false::d,ok (by kernel_rfl) (ai (N0 (n:=n) h.z h.b) (ai (⟨s,s2⟩:bc (dat (.list HT) a.P)=true∧bc (dat (.list HT) (a.R.flatMap yB))=true) (ai n1 (ai n2 (ai (by decide:0≤bS) (ai (⟨s3,rfl⟩:bc (dat (.list .str) (a.lf.map sg))=true∧bc (dat (.list .str) [])=true) (ai n3 (ai n4 (ai (rfl:qL .Or=false) q)))))))))⟩
noncomputable def e8:Expr:=cV (cZ bL 8)
noncomputable def mO(R:List (den RW))(k:Int):Bool:=cond (rw R k).2.2.2.2.1 (!(rw R k).2.2.1.contains 10) false
noncomputable def BV(R:List (den RW))(k:Int):List Int:=cond (mO R k) [k] []
noncomputable def fz(R:List (den RW)):List Int:=bE.flatMap (BV R)
theorem eZ{α β:Type}(f:α→List β)(h: ∀x,(f x).length≤1)(l:List α):(l.flatMap f).length≤l.length:=ad (nr f l fun x M=>h x) (aC (Nat.mul_one _))
theorem I4(R:List (den RW))(k:Int):(BV R k).length≤1:=by unfold BV;induction mO R k using ah with |false=>exact a9 1|true=>exact av 1
theorem NZ(h: ∀k∈bE,fy a.R.length k):gn (eH G3 n 28 e8 cB (sr a [] [] [])) (.lst .int (fz a.R)) (sr a [] [] []):=
 dw (e:=V.int) (names:=[nm "k"]) (l:=bE) (Γc:=gP e8 cB 15) (hp1:=sr a [] [] [fh "k" .unb]) (H:=sr a [] [] [fh "k" .unb]) (own:=false) (u:= .int) (f:=BV a.R) (okf:=fun M p=>p)
  (fun ds K q=>ok (by kernel_rfl) (ai (bU (i:=9) rfl) (ai (rfl:aY 0 9 1=true) q))) (by decide) (fun M M M p=>p) (by kernel_rfl)
  (fun k hk=>⟨sr a [] [] [fh "k" (.int k)],by
   have i:=h k hk
   unfold BV mO
   induction z:(rw a.R k).2.2.2.2.1 using ah with
   |false=>exact⟨⟨[.b false],ok (by kernel_rfl) (ai i (ai z (rc (u:= .int) [] (sr a [] [] [fh "k" (.int k)]))))⟩,by kernel_rfl⟩
   |true=>induction y:(!(rw a.R k).2.2.1.contains 10)using ah with
    |false=>exact⟨⟨[.b true,.b false],ok (by kernel_rfl) (ai i (ai z (ai i (ai y (rc (u:= .int) [] (sr a [] [] [fh "k" (.int k)]))))))⟩,by kernel_rfl⟩
    |true=>exact⟨⟨[.b true,.b true],ok (by kernel_rfl) (ai i (ai z (ai i (ai y (rc (u:= .int) [k] (sr a [] [] [fh "k" (.int k)]))))))⟩,by kernel_rfl⟩⟩)
  fun K ds k=>ok (by kernel_rfl) (ai (ad (eZ _ (I4 a.R) _) (by decide:9≤bS):(fz a.R).length≤bS) k)
noncomputable def rJ(a:Cm)(l c:List V)(r:List AO):Hp:=sr a l (.lst .int (fz a.R)::c) r
theorem Mq(h: ∀k∈bE,fy a.R.length k):Goes (bf (fb G3 n 30) [cZ bL 8] cB (sr a [] [] [])) .next (rJ a [] [] []):=fun K d q=>
 ⟨.r (.lst .int (fz a.R)) (sr a [] [] [])::d,ok (by kernel_rfl) (ai (NZ (n:=n) h) q)⟩
noncomputable def e9:Expr:=cV (cZ bL 9)
noncomputable def PW(e:Expr)(i:Nat):Expr:=match e with
 | .ListComp M gs Δ Θ=>(match gs with
  |g::M=>g.ifs.getD i e
  |[]=>e)
 |M=>e
noncomputable def Qa:Expr:=pH (PW e9 0) [1]
noncomputable def nM(v:V)(r:List AO):List AO:= .loc [(nm ".0",.unb)]:: .cell v::r
noncomputable def oJ(R:List (den RW))(k j:Int):List Int:=cond (decide (j<k)) [(rw R j).1] []
noncomputable def oH(R:List (den RW))(F:List Int)(k:Int):List Int:=F.flatMap (oJ R k)
noncomputable def jQ(R:List (den RW))(F:List Int)(k:Int):Bool:= !(oH R F k).contains (rw R k).1
noncomputable def BX(R:List (den RW))(F:List Int)(k:Int):List Int:=cond (jQ R F k) [k] []
noncomputable def iU(R:List (den RW)):List Int:=(fz R).flatMap (BX R (fz R))
theorem Mz(R:List (den RW))(k j:Int):(oJ R k j).length≤1:=by unfold oJ;induction decide (j<k)using ah with |false=>exact a9 1|true=>exact av 1
theorem Pf(R:List (den RW))(F:List Int)(k:Int):(BX R F k).length≤1:=by unfold BX;induction jQ R F k using ah with |false=>exact a9 1|true=>exact av 1
theorem Hr(R:List (den RW)):(fz R).length≤9:=eZ _ (I4 R) _
theorem My(R:List (den RW))(k:Int):(oH R (fz R) k).length≤9:=ad (eZ _ (Mz R k) _) (Hr R)
theorem BY(R:List (den RW)):(iU R).length≤9:=ad (eZ _ (Pf R _) _) (Hr R)
theorem Ln{k:Int}(h: ∀j∈fz a.R,fy a.R.length j):gn (eH G3 n 26 Qa (gP e9 cB 15) (rJ a [] [] (nM (.int k) []))) (.lst .int (oH a.R (fz a.R) k)) (rJ a [] [] (nM (.int k) [])):=
 dw (e:=V.int) (names:=[nm "j"]) (l:=fz a.R) (Γc:=gP Qa (gP e9 cB 15) 17) (hp1:=rJ a [] [] (nM (.int k) [fh "j" .unb])) (H:=rJ a [] [] (nM (.int k) [fh "j" .unb])) (own:=false) (u:= .int) (f:=oJ a.R k) (okf:=fun M p=>p)
  (fun ds K q=>ok (by kernel_rfl) q) (ad (Hr a.R) (by decide)) (fun M M M p=>p) (by kernel_rfl)
  (fun j hj=>⟨rJ a [] [] (nM (.int k) [fh "j" (.int j)]),by
   have i:=h j hj
   unfold oJ
   induction z:decide (j<k)using ah with
   |false=>exact⟨⟨[.b false],ok (by kernel_rfl) (ai z (rc (u:= .int) [] (rJ a [] [] (nM (.int k) [fh "j" (.int j)]))))⟩,by kernel_rfl⟩
   |true=>exact⟨⟨[.b true],ok (by kernel_rfl) (ai z (ai i (rc (u:= .int) [(rw a.R j).1] (rJ a [] [] (nM (.int k) [fh "j" (.int j)])))))⟩,by kernel_rfl⟩⟩)
  fun K ds q=>ok (by kernel_rfl) (ai (ad (My a.R k) (by decide:9≤bS)) q)
theorem NY(h: ∀j∈fz a.R,fy a.R.length j):gn (eH G3 n 28 e9 cB (rJ a [] [] [])) (.lst .int (iU a.R)) (rJ a [] [] []):=
 tF (e:=V.int) (names:=[nm "k"]) (l:=fz a.R) (Γc:=gP e9 cB 15) (hp1:=rJ a [] [] (nM .unb [])) (H:=fun v=>rJ a [] [] (nM v [])) (own:=false) (u:= .int) (f:=BX a.R (fz a.R)) (okf:=fun M p=>p) V.unb
  (fun ds K q=>ok (by kernel_rfl) q) (ad (Hr a.R) (by decide)) (fun M M M M p=>p) (by kernel_rfl)
  (fun k hk v=>⟨rJ a [] [] (nM (.int k) []),.int k,by
   have c:=Ln (n:=n) (a:=a) (k:=k) h
   have i:=h k hk
   unfold BX
   induction z:jQ a.R (fz a.R) k using ah with
   |false=>exact⟨⟨[.r (.lst .int (oH a.R (fz a.R) k)) (rJ a [] [] (nM (.int k) [])),.b false],ok (by kernel_rfl) (ai i (ai c (ai z (rc (u:= .int) [] (rJ a [] [] (nM (.int k) []))))))⟩,by kernel_rfl⟩
   |true=>exact⟨⟨[.r (.lst .int (oH a.R (fz a.R) k)) (rJ a [] [] (nM (.int k) [])),.b true],ok (by kernel_rfl) (ai i (ai c (ai z (rc (u:= .int) [k] (rJ a [] [] (nM (.int k) []))))))⟩,by kernel_rfl⟩⟩)
  fun K ds v k=>ok (by kernel_rfl) (ai (ad (BY a.R) (by decide:9≤bS)) k)
noncomputable def O7(a:Cm)(D:List Int)(l c:List V)(r:List AO):Hp:=rJ a (.lst .int D::l) c r
theorem Mp(h: ∀j∈fz a.R,fy a.R.length j):Goes (bf (fb G3 n 30) [cZ bL 9] cB (rJ a [] [] [])) .next (O7 a (iU a.R) [] [] []):=fun K d q=>
 ⟨.r (.lst .int (iU a.R)) (rJ a [] [] [])::d,ok (by kernel_rfl) (ai (NY (n:=n) h) q)⟩
theorem J2{D:List Int}:Goes (bf (fb G3 n 30) [cZ bL 10] cB (O7 a D [] [] [])) .next (O7 a D [.own 15] [] [.list AL []]):=fun K d q=>
 ⟨d,ok (by kernel_rfl) (ai (by decide:0≤bS) q)⟩
end
noncomputable def ii(a:Cm)(D:List Int)(sd:List (den AL))(kv:V)(l c:List V)(r:List AO):Hp:=Cv a.ns (.lst .int a.C:: .str a.x:: .str a.e:: .int a.ln:: .lst .str (a.lf.map sg):: .lst .int D:: .own 15::l) (vB::kv:: .lst RW a.R:: .int a.sg:: .lst .str a.T:: .lst HT a.P:: .lst .int (fz a.R)::c) (.list AL sd::r)
noncomputable def LP:bP:=cZ bL 11
noncomputable def OJ:List bP:=bT LP true
noncomputable def KM:bP:=cZ OJ 1
noncomputable def QE:Expr:=pH (cV (cZ (bT KM true) 0)) [1]
noncomputable def Qg:Expr:=pH QE [0,0]
section
variable{n:Nat}{a:Cm}{D:List Int}{sd:List (den AL)}
noncomputable abbrev xU(R:List (den RW))(k:Int):Bool:=(rw R k).2.2.2.2.1
noncomputable def vb(b:Bool):den AL:= .inl (b,!b)
theorem Pc{k:Int}(i:fy a.R.length k)(z:(sd++[vb (xU a.R k)]).length≤bS):Goes (bf (fb G3 n 29) [cZ OJ 0] cB (ii a D sd (.int k) [] [] [])) .next (ii a D (sd++[vb (xU a.R k)]) (.int k) [] [] []):=fun K d q=>
 ⟨d,ok (by kernel_rfl) (ai i (ai i (ai z q)))⟩
noncomputable def ol(R:List (den RW))(k j:Int):List (List Nat):=cond (decide (j≤k)) (cond ((rw R j).1==(rw R k).1) [(rw R j).2.2.1] []) []
noncomputable def xm(R:List (den RW))(D:List Int)(k:Int):List (List Nat):=D.flatMap (ol R k)
theorem NV(R:List (den RW))(k j:Int):(ol R k j).length≤1:=by
 unfold ol
 induction decide (j≤k)using ah with
 |false=>exact a9 1
 |true=>induction ((rw R j).1==(rw R k).1)using ah with
  |false=>exact a9 1
  |true=>exact av 1
theorem Lw{k:Int}(i:fy a.R.length k)(h: ∀j∈D,fy a.R.length j)(h9:D.length≤9):gn (eH G3 n 23 Qg cB (ii a D sd (.int k) [] [] [])) (.lst .str (xm a.R D k)) (ii a D sd (.int k) [] [] []):=
 dw (e:=V.int) (names:=[nm "j"]) (l:=D) (Γc:=gP Qg cB 16) (hp1:=ii a D sd (.int k) [] [] [fh "j" .unb]) (H:=ii a D sd (.int k) [] [] [fh "j" .unb]) (own:=false) (u:= .str) (f:=ol a.R k) (okf:=fun M p=>p)
  (fun ds K q=>ok (by kernel_rfl) q) (ad h9 (by decide)) (fun M M M p=>p) (by kernel_rfl)
  (fun j hj=>⟨ii a D sd (.int k) [] [] [fh "j" (.int j)],by
   have ij:=h j hj
   unfold ol
   induction z:decide (j≤k)using ah with
   |false=>exact⟨⟨[.b false],ok (by kernel_rfl) (ai z (rc (u:= .str) [] (ii a D sd (.int k) [] [] [fh "j" (.int j)])))⟩,by kernel_rfl⟩
   |true=>induction y:((rw a.R j).1==(rw a.R k).1)using ah with
    |false=>exact⟨⟨[.b true,.b false],ok (by kernel_rfl) (ai z (ai ij (ai i (ai y (rc (u:= .str) [] (ii a D sd (.int k) [] [] [fh "j" (.int j)]))))))⟩,by kernel_rfl⟩
    |true=>exact⟨⟨[.b true,.b true],ok (by kernel_rfl) (ai z (ai ij (ai i (ai y (ai ij (rc (u:= .str) [(rw a.R j).2.2.1] (ii a D sd (.int k) [] [] [fh "j" (.int j)])))))))⟩,by kernel_rfl⟩⟩)
  fun K ds q=>ok (by kernel_rfl) (ai (ad (ad (eZ _ (NV a.R k) _) h9) (by decide:9≤bS)) q)
noncomputable def sA(R:List (den RW))(D:List Int)(k:Int):List Nat:=getD (xm R D k++[lD]) 0 []
noncomputable def lC(R:List (den RW))(D:List Int)(sd:List (den AL))(k:Int):List (den AL):=cond (xU R k) (sd++[vb (xU R k)]++[pB (sA R D k)]) (sd++[vb (xU R k)])
noncomputable def Lg(R:List (den RW))(D:List Int)(sd:List (den AL))(k:Int):List (den AL):=cond (xU R k) (sd++[pB (sA R D k)]) sd
theorem Pb{k:Int}(i:fy a.R.length k)(h: ∀j∈D,fy a.R.length j)(h9:D.length≤9)(z:(sd++[pB (sA a.R D k)]).length≤bS):Goes (bf (fb G3 n 29) [KM] cB (ii a D sd (.int k) [] [] [])) .next (ii a D (Lg a.R D sd k) (.int k) [] [] []):=fun K d q=>by
 unfold Lg at q
 induction y:xU a.R k using ah with
 |false=>rw[y]at q;exact⟨.b false::d,ok (by kernel_rfl) (ai i (ai y q))⟩
 |true=>
  rw[y]at q
  have l9:(xm a.R D k).length≤9:=ad (eZ _ (NV a.R k) _) h9
  have l10:(xm a.R D k++[lD]).length≤bS:=by rw[ak];exact ad (aT l9 1) (by decide:10≤bS)
  have i0:fy (xm a.R D k++[lD]).length 0:=by rw[ak];exact iS (j:=0) (Nat.succ_pos _)
  exact⟨.b true:: .r (.lst .str (xm a.R D k)) (ii a D sd (.int k) [] [] [])::d,ok (by kernel_rfl) (ai i (ai y (ai (Lw (n:=n) (sd:=sd) i h h9) (ai (by decide:1≤bS) (ai l10 (ai i0 (ai z q)))))))⟩
structure Ot(R:List (den RW))(D:List Int)(s:List (den AL)×V)(k:Int):Prop where
 i:fy R.length k
 z:s.1.length+2≤bS
theorem JA(h: ∀j∈D,fy a.R.length j)(h9:D.length≤9)(s:List (den AL)×V)(k:Int)(g:Ot a.R D s k): ∃f hp1,eF (eE G3 n 29 LP cB (.int k) (ii a D s.1 s.2 [] [] [])) f hp1∧(f= .next∨f= .cont)∧
  ∀(next:Hp→Ds→Prop) ds,next (ii a D (lC a.R D s.1 k) (.int k) [] [] []) ds→gB 16 [] (forget 0 [nm "k"] hp1) fun M hp=>next hp ds:=by
 have e:OJ=cZ OJ 0::[KM]:=by kernel_rfl
 have es:Lg a.R D (s.1++[vb (xU a.R k)]) k=lC a.R D s.1 k:=rfl
 obtain⟨ds,z⟩:=ca e (Pc (n:=n) (a:=a) (D:=D) (sd:=s.1) g.i (len2 g.z _)) (Pb (n:=n) g.i h h9 (Ks g.z _ _)) (fun f h' M=>f= .next∧h'=ii a D (lC a.R D s.1 k) (.int k) [] [] []) [] ⟨rfl,es▸rfl⟩
 exact⟨.next,ii a D (lC a.R D s.1 k) (.int k) [] [] [],⟨ds,ok (by kernel_rfl) z⟩,.inl rfl,fun next ds q=>by
  generalize lC a.R D s.1 k=s1 at q ⊢
  exact ok (by kernel_rfl) q⟩
noncomputable def EK(R:List (den RW))(D:List Int):List (den AL):=bE.foldl (lC R D) []
theorem xl(R:List (den RW))(D:List Int)(sd:List (den AL))(k:Int):(lC R D sd k).length≤sd.length+2:=by
 unfold lC
 induction xU R k using ah with
 |false=>rw[show(cond false _ _:List (den AL))=sd++[vb false]from rfl,ak];exact cN _
 |true=>rw[show(cond true _ _:List (den AL))=sd++[vb true]++[pB (sA R D k)]from rfl,ak,ak];exact av _
theorem Hy(R:List (den RW))(D:List Int)(l:List Int): ∀(s:List (den AL)×V),(∀k∈l,fy R.length k)→s.1.length+2*l.length≤bS→gw (Ot R D) (fun s k=>(lC R D s.1 k,V.int k)) l s (l.foldl (lC R D) s.1,(l.map V.int).getLastD s.2):=by
 induction l with
 |nil=>exact fun s M M=>rfl
 |cons k l ih=>
  intro s h hz
  have e:s.1.length+2*(k::l).length=s.1.length+2+2*l.length:=by rw[b4];lia
  rw[e]at hz
  refine⟨⟨h k (.head _),ad (aG _ _) hz⟩,?_⟩
  have r:=ih (lC R D s.1 k,V.int k) (fun k m=>h k (.tail _ m)) (ad (aT (xl R D s.1 k) _) hz)
  have e2:((k::l).map V.int).getLastD s.2=(l.map V.int).getLastD (V.int k):=by
   cases l with
   |nil=>rfl
   |cons b l=>rfl
  rw[e2]
  exact r
theorem J1(hk: ∀k∈bE,fy a.R.length k)(h: ∀j∈D,fy a.R.length j)(h9:D.length≤9):Goes (bf (fb G3 n 30) [LP] cB (ii a D [] .unb [] [] [])) .next (ii a D (EK a.R D) (.int 8) [] [] []):=fun K d k=>by
 obtain⟨e,q⟩:=fP (turn:=eE G3 n 29 LP cB) (okf:=fun M p=>p) (m:=16) (fr:=0) (names:=[nm "k"]) (e:=V.int) (H:=fun s:List (den AL)×V=>ii a D s.1 s.2 [] [] []) (fun M M p=>p) (JA (n:=n) h h9) bE (Hy a.R D bE ([],.unb) hk (by decide))
  (fun f h' M=>f= .next∧h'=ii a D (EK a.R D) (.int 8) [] [] []) [] ⟨rfl,rfl⟩
 have f:eF (ka G3 n 29 LP cB (ii a D [] .unb [] [] [])) .next (ii a D (EK a.R D) (.int 8) [] [] []):=⟨e,ok (by kernel_rfl) (ai (bU (i:=9) rfl) (ai (rfl:aY 0 9 1=true) q))⟩
 exact⟨.l .next (ii a D (EK a.R D) (.int 8) [] [] [])::d,ok (by kernel_rfl) (ai f k)⟩
noncomputable def rT(tb:List (den HT))(r:List AO):List AO:= .inst 289 17:: .attrs [(nm "_headers",.own 18)]:: .list HT tb::r
noncomputable def jc(a:Cm)(D:List Int)(sd sd2:List (den AL))(tb:List (den HT))(l c:List V)(r:List AO):Hp:=ii a D sd (.int 8) (.own 16:: .lst AL sd2::l) c (rT tb r)
theorem J0{sd2:List (den AL)}{tb:List (den HT)}(h:gn (C3 n 317 [.lst HT a.P] []) (Ky sd2) (hH tb)):Goes (bf (fb G3 n 30) [cZ bL 12] cB (ii a D sd (.int 8) [] [] [])) .next (jc a D sd sd2 tb [] [] []):=fun K d q=>
 ⟨.r (Ky sd2) (hH tb)::d,ok (by kernel_rfl) (ai h q)⟩
end
section
variable{n:Nat}{a:Cm}{D:List Int}{sd sd2:List (den AL)}{tb:List (den HT)}
noncomputable def Qf:Expr:=pH (cV (cZ bL 13)) [1,1]
noncomputable def LQ(P:List (den HT))(k:Int):List (den HT):=[getD P k (nu HT)]
noncomputable def GD(P:List (den HT))(D:List Int):List (den HT):=D.flatMap (LQ P)
theorem Lv(h: ∀k∈D,fy a.P.length k)(h9:D.length≤9):gn (eH G3 n 26 Qf cB (jc a D sd sd2 tb [] [] [])) (.lst HT (GD a.P D)) (jc a D sd sd2 tb [] [] []):=
 dw (e:=V.int) (names:=[nm "k"]) (l:=D) (Γc:=gP Qf cB 19) (hp1:=jc a D sd sd2 tb [] [] [fh "k" .unb]) (H:=jc a D sd sd2 tb [] [] [fh "k" .unb]) (own:=false) (u:=HT) (f:=LQ a.P) (okf:=fun M p=>p)
  (fun ds K q=>ok (by kernel_rfl) q) (ad h9 (by decide)) (fun M M M p=>p) (by kernel_rfl)
  (fun k hk=>⟨jc a D sd sd2 tb [] [] [fh "k" (.int k)],⟨[],ok (by kernel_rfl) (ai (h k hk) (rc (u:=HT) (LQ a.P k) (jc a D sd sd2 tb [] [] [fh "k" (.int k)])))⟩,by kernel_rfl⟩)
  fun K ds q=>ok (by kernel_rfl) (ai (ad (ad (eZ (LQ a.P) (fun M=>av 1) _) h9) (by decide:9≤bS)) q)
noncomputable def OW(x y:List (den AL)):Bool:= !PyData.eqv (dat (.list AL) x) (dat (.list AL) y)
noncomputable def HI(tb:List (den HT)):List (den HT):=jG tb 0 tb.length
structure LL(a:Cm)(D:List Int)(sd sd2:List (den AL))(tb:List (den HT)):Prop where
 s:sd2=sd
 o:jP (.list AL) sd=true
 b:(HI tb).length≤bS
 t:HI tb=GD a.P D
 p:jP (.list HT) (GD a.P D)=true
 i: ∀k∈D,fy a.P.length k
 n:D.length≤9
theorem JZ(h:LL a D sd sd2 tb):Goes (bf (fb G3 (n+1) 30) [cZ bL 13] cB (jc a D sd sd2 tb [] [] [])) .next (jc a D sd sd2 tb [] [] []):=fun K d q=>by
 have s1:=gA (t:= .list AL) h.o rfl
 have s2:bc (dat (.list AL) sd2)=true:=h.s▸s1
 have n1:OW sd2 sd=false:=h.s▸congrArg (!·) (io (t:= .list AL) h.o)
 have s3:=gA (t:= .list HT) h.p rfl
 have s4:bc (dat (.list HT) (HI tb))=true:=h.t▸s3
 have n2:MR (HI tb) (GD a.P D)=false:=h.t▸congrArg (!·) (io (t:= .list HT) h.p)
 exact⟨.b false:: .r (.lst HT (HI tb)) (hH tb):: .r (.lst HT (GD a.P D)) (jc a D sd sd2 tb [] [] []):: .b false:: .b false::d,ok (by kernel_rfl) (ai (⟨s2,s1⟩:bc (dat (.list AL) sd2)=true∧bc (dat (.list AL) sd)=true) (ai n1 (ai (Pz (n:=n) h.b) (ai (Lv (n:=n+1) (a:=a) (sd:=sd) (sd2:=sd2) (tb:=tb) h.i h.n) (ai (⟨s4,s3⟩:bc (dat (.list HT) (HI tb))=true∧bc (dat (.list HT) (GD a.P D))=true) (ai n2 (ai (rfl:qL .Or=false) q)))))))⟩
noncomputable def Qe:Expr:=pH (cV (cZ bL 14)) [1]
noncomputable def LO(R:List (den RW))(k:Int):List (den PI):=[((rw R k).1,(rw R k).2.2.2.1)]
noncomputable def Gp(R:List (den RW))(D:List Int):List (den PI):=D.flatMap (LO R)
theorem Lu(h: ∀k∈D,fy a.R.length k)(h9:D.length≤9):gn (eH G3 n 27 Qe cB (jc a D sd sd2 tb [] [] [])) (.lst PI (Gp a.R D)) (jc a D sd sd2 tb [] [] []):=
 dw (e:=V.int) (names:=[nm "k"]) (l:=D) (Γc:=gP Qe cB 19) (hp1:=jc a D sd sd2 tb [] [] [fh "k" .unb]) (H:=jc a D sd sd2 tb [] [] [fh "k" .unb]) (own:=false) (u:=PI) (f:=LO a.R) (okf:=fun M p=>p)
  (fun ds K q=>ok (by kernel_rfl) q) (ad h9 (by decide)) (fun M M M p=>p) (by kernel_rfl)
  (fun k hk=>⟨jc a D sd sd2 tb [] [] [fh "k" (.int k)],⟨[],ok (by kernel_rfl) (ai (h k hk) (ai (h k hk) (rc (u:=PI) (LO a.R k) (jc a D sd sd2 tb [] [] [fh "k" (.int k)]))))⟩,by kernel_rfl⟩)
  fun K ds q=>ok (by kernel_rfl) (ai (ad (ad (eZ (LO a.R) (fun M=>av 1) _) h9) (by decide:9≤bS)) q)
theorem JY{S:List (den PI)}(h: ∀k∈D,fy a.R.length k)(h9:D.length≤9)(hp:S.Perm (Gp a.R D))(hw:S.Pairwise (fun a b=>a.1<b.1)):Goes (bf (fb G3 n 30) [cZ bL 14] cB (jc a D sd sd2 tb [] [] [])) .next (jc a D sd sd2 tb [] [.lst PI S] []):=fun K d q=>by
 have l9:(Gp a.R D).length≤9:=ad (eZ (LO a.R) (fun M=>av 1) _) h9
 exact⟨.r (.lst PI (Gp a.R D)) (jc a D sd sd2 tb [] [] [])::d,ok (by kernel_rfl) (ai (Lu (n:=n) (a:=a) (sd:=sd) (sd2:=sd2) (tb:=tb) h h9) (ai (aj l9 (by decide):(Gp a.R D).length<64) (Exists.intro (p:=fun l:List (den PI)=>(l.Perm (Gp a.R D)∧l.Pairwise (fun a b=>a.1<b.1))∧l.length≤bS∧K .next (jc a D sd sd2 tb [] [.lst PI l] []) d) S (ai (ai hp hw) (ai (hp.length_eq▸ad l9 (by decide:9≤bS):S.length≤bS) q)))))⟩
end
structure vA where
 a:Cm
 D:List Int
 sd:List (den AL)
 sd2:List (den AL)
 tb:List (den HT)
 S:List (den PI)
 s:jM
 U:List (den PI)
noncomputable def gH(b:vA)(l c:List V)(r:List AO):Hp:=jc b.a b.D b.sd b.sd2 b.tb (.lst PI b.s.sh:: .lst PI b.U::l) (.lst PI b.S:: .int b.s.le:: .int b.s.wh::c) r
section
variable{n:Nat}{b:vA}
theorem JX(h:gn (C3 n 329 [.own 0,.int b.a.sg] (hH b.tb)) (Dd b.s b.U) (hH b.tb)):Goes (bf (fb G3 n 30) [cZ bL 15] cB (jc b.a b.D b.sd b.sd2 b.tb [] [.lst PI b.S] [])) .next (gH b [] [] []):=fun K d q=>
 ⟨.r (Dd b.s b.U) (hH b.tb)::d,ok (by kernel_rfl) (ai h q)⟩
theorem JW:Goes (bf (fb G3 n 30) [cZ bL 16] cB (gH b [] [] [])) .next (gH b [.int 1] [] []):=fun K d q=>⟨d,ok (by kernel_rfl) q⟩
end
section
variable{n:Nat}{b:vA}
noncomputable def MC:bP:=cZ bL 17
noncomputable abbrev IP(p:den PI):Int:=wK (Ai p.1 p.2)
structure Cp(m:Int)(p:den PI):Prop where
 l:FA p.1 p.2
 v:IP p≠0∧aH p.1∧(IP p).natAbs<2^30
 m:aH m∧aH (p.1.fdiv (IP p))
noncomputable def I8(m:Int)(p:den PI):Int:=m*p.1.fdiv (IP p)
noncomputable def Nc(b:vA)(m:Int)(x y:V):Hp:=gH b [.int m,x,y] [] []
theorem Jz(m:Int)(p:den PI)(h:Cp m p): ∃f hp1,eF (eE G3 (n+1) 29 MC cB (emb PI p) (Nc b m .unb .unb)) f hp1∧(f= .next∨f= .cont)∧
  ∀(next:Hp→Ds→Prop) ds,next (Nc b (I8 m p) .unb .unb) ds→gB 19 [] (forget 0 [nm "one",nm "value"] hp1) fun M hp=>next hp ds:=
 ⟨.next,Nc b (I8 m p) (.int p.1) (.int p.2),⟨[.r (.int (IP p)) []],ok (by kernel_rfl) (ai (N9 (n:=n) h.l) (ai h.v (ai h.m (rr Fl.next (Nc b (I8 m p) (.int p.1) (.int p.2))))))⟩,.inl rfl,fun next ds k=>ok (by kernel_rfl) k⟩
theorem JV{m:Int}(h:gw Cp I8 b.S 1 m):Goes (bf (fb G3 (n+1) 30) [MC] cB (gH b [.int 1] [] [])) .next (gH b [.int m] [] []):=fun K d k=>by
 obtain⟨e,q⟩:=fP (turn:=eE G3 (n+1) 29 MC cB) (okf:=fun M p=>p) (m:=19) (fr:=0) (names:=[nm "one",nm "value"]) (e:=emb PI) (H:=fun m=>Nc b m .unb .unb) (fun M M p=>p) (Jz (n:=n)) b.S h
  (fun f h' M=>f= .next∧h'=gH b [.int m] [] []) [] ⟨rfl,rfl⟩
 have f:eF (ka G3 (n+1) 29 MC cB (gH b [.int 1] [] [])) .next (gH b [.int m] [] []):=⟨e,ok (by kernel_rfl) q⟩
 exact⟨.l .next (gH b [.int m] [] [])::d,ok (by kernel_rfl) (ai f k)⟩
noncomputable def oq(x:Int):Int:=if x<0 then -x else x
noncomputable def MQ(x y:List (den PI)):Bool:= !PyData.eqv (dat (.list PI) x) (dat (.list PI) y)
structure LK(b:vA)(m:Int):Prop where
 s:b.s.sh=b.S
 o:jP (.list PI) b.S=true
 i2:fy b.U.length (-2)
 i1:fy b.U.length (-1)
 am:oq (kR b.U (-2)).1=m
 z:(kR b.U (-1)).1=0
 k:aH (oq (kR b.U (-1)).2)∧aH m
 w:oq (kR b.U (-1)).2*m=b.s.wh
theorem ld{x y:Int}(h:x=y):ur x y=false:=by unfold ur;rw[h,beq_self_eq_true];rfl
theorem JU{m:Int}(h:LK b m):Goes (bf (fb G3 n 30) [cZ bL 18] cB (gH b [.int m] [] [])) .next (gH b [.int m] [] []):=fun K d q=>by
 have s1:=gA (t:= .list PI) h.o rfl
 have s2:bc (dat (.list PI) b.s.sh)=true:=h.s▸s1
 have n1:MQ b.s.sh b.S=false:=h.s▸congrArg (!·) (io (t:= .list PI) h.o)
 exact⟨.b false:: .b false:: .b false:: .b false:: .b false::d,ok (by kernel_rfl) (ai (⟨s2,s1⟩:bc (dat (.list PI) b.s.sh)=true∧bc (dat (.list PI) b.S)=true) (ai n1 (ai h.i2 (ai (rfl:fy 2 0) (ai (ld h.am) (ai h.i1 (ai (rfl:fy 2 0) (ai (ld h.z) (ai h.i1 (ai (rfl:fy 2 1) (ai h.k (ai (ld h.w) (ai (rfl:qL .Or=false) q)))))))))))))⟩
noncomputable def Qd:Expr:=pH (cV (cZ bL 19)) [0]
structure Ih(b:vA)(p:den PI):Prop where
 a:aH p.2∧aH b.a.sg
 c:aH (p.2*b.a.sg)∧aH b.s.le
 w:b.s.wh≠0
 z:(p.2*b.a.sg*b.s.le-p.1).fmod b.s.wh=0
theorem Ez{α β:Type}(l:List α):l.flatMap (fun M=>([]:List β))=[]:=by
 induction l with
 |nil=>rfl
 |cons x l ih=>exact ih
theorem Ls{m:Int}(h: ∀p∈b.U,Ih b p)(hz:b.U.length≤1000000):gn (eH G3 n 27 Qd cB (gH b [.int m] [] [])) (.lst PI []) (gH b [.int m] [] []):=
 dw (e:=emb PI) (names:=[nm "row"]) (l:=b.U) (Γc:=gP Qd cB 19) (hp1:=gH b [.int m] [] [fh "row" .unb]) (H:=gH b [.int m] [] [fh "row" .unb]) (own:=false) (u:=PI) (f:=fun M=>[]) (okf:=fun M p=>p)
  (fun ds K q=>ok (by kernel_rfl) q) hz (fun M M M p=>p) (by kernel_rfl)
  (fun p hp=>have g:=h p hp;⟨gH b [.int m] [] [fh "row" (emb PI p)],⟨[.b false],ok (by kernel_rfl) (ai (rfl:fy 2 1) (ai g.a (ai g.c (ai (rfl:fy 2 0) (ai g.w (ai (ld g.z) (rc (u:=PI) [] (gH b [.int m] [] [fh "row" (emb PI p)]))))))))⟩,by kernel_rfl⟩)
  fun K ds q=>by
   rw[Ez]
   exact ok (by kernel_rfl) (ai (by decide:0≤bS) q)
theorem JT{m:Int}(h: ∀p∈b.U,Ih b p)(hz:b.U.length≤1000000):Goes (bf (fb G3 n 30) [cZ bL 19] cB (gH b [.int m] [] [])) .next (gH b [.int m] [] []):=fun K d q=>by
 have s1:bc (dat (.list PI) [])=true:=rfl
 have n1:MQ [] []=false:=by kernel_rfl
 exact⟨.r (.lst PI []) (gH b [.int m] [] []):: .b false::d,ok (by kernel_rfl) (ai (Ls (n:=n) (m:=m) h hz) (ai (by decide:0≤bS) (ai (⟨s1,s1⟩:bc (dat (.list PI) [])=true∧bc (dat (.list PI) [])=true) (ai n1 q))))⟩
noncomputable def Qc:Expr:=pH (cV (cZ bL 20)) [1]
noncomputable def MN(p:den PI):List Int:=[p.1]
noncomputable def LR(S:List (den PI)):List Int:=S.flatMap MN
noncomputable abbrev AG(x y:V):AO:= .loc [(nm ".0",.unb),(nm "one",x),(nm "value",y)]
theorem Lr{m:Int}(hz:b.S.length≤9):gn (eH G3 n 27 Qc cB (gH b [.int m] [] [])) (.lst .int (LR b.S)) (gH b [.int m] [] []):=
 dw (e:=emb PI) (names:=[nm "one",nm "value"]) (l:=b.S) (Γc:=gP Qc cB 19) (hp1:=gH b [.int m] [] [AG .unb .unb]) (H:=gH b [.int m] [] [AG .unb .unb]) (own:=false) (u:= .int) (f:=MN) (okf:=fun M p=>p)
  (fun ds K q=>ok (by kernel_rfl) q) (ad hz (by decide)) (fun M M M p=>p) (by kernel_rfl)
  (fun p hp=>⟨gH b [.int m] [] [AG (.int p.1) (.int p.2)],⟨[],ok (by kernel_rfl) (rc (u:= .int) (MN p) (gH b [.int m] [] [AG (.int p.1) (.int p.2)]))⟩,by kernel_rfl⟩)
  fun K ds q=>ok (by kernel_rfl) (ai (ad (ad (eZ MN (fun M=>av 1) _) hz) (by decide:9≤bS)) q)
noncomputable def jT(b:vA)(m lim bo:Int)(l c:List V)(r:List AO):Hp:=gH b (.int m:: .unb:: .unb::l) (.int lim:: .int bo::c) r
theorem JS{m lim bo:Int}(hz:b.S.length≤9)(h:gn (C3 n 324 [.lst .int (LR b.S)] []) (two lim bo) []):Goes (bf (fb G3 n 30) [cZ bL 20] cB (gH b [.int m] [] [])) .next (jT b m lim bo [] [] []):=fun K d q=>
 ⟨.r (.lst .int (LR b.S)) (gH b [.int m] [] []):: .r (two lim bo) []::d,ok (by kernel_rfl) (ai (Lr (n:=n) (m:=m) hz) (ai h q))⟩
end
section
variable{n:Nat}{b:vA}{m lim bo:Int}
noncomputable def NU:Expr:=cV (cZ bL 21)
noncomputable def NT:Expr:=pH (pH (PW NU 0) [0]) [1]
noncomputable def DA(k:Int)(p:den PI):List Int:=cond (ur ((p.2-k).fmod p.1) 0) [1] []
noncomputable def yA(S:List (den PI))(k:Int):List Int:=S.flatMap (DA k)
noncomputable def AB(S:List (den PI))(lim k:Int):Bool:=decide (((yA S k).length:Int)≤lim)
noncomputable def xh(S:List (den PI))(lim k:Int):List Int:=cond (AB S lim k) [k] []
noncomputable def fZ(S:List (den PI))(lim:Int):List Int:=(iO 24).flatMap (xh S lim)
theorem OU(k:Int)(p:den PI):(DA k p).length≤1:=by unfold DA;induction ur ((p.2-k).fmod p.1) 0 using ah with |false=>exact a9 1|true=>exact av 1
theorem NH(S:List (den PI))(lim k:Int):(xh S lim k).length≤1:=by unfold xh;induction AB S lim k using ah with |false=>exact a9 1|true=>exact av 1
theorem HO{k:Int}(h: ∀p∈b.S,p.1≠0)(h9:b.S.length≤9):gn (eH G3 n 25 NT (gP NU cB 19) (jT b m lim bo [] [] (nM (.int k) []))) (.lst .int (yA b.S k)) (jT b m lim bo [] [] (nM (.int k) [])):=
 dw (e:=emb PI) (names:=[nm "one",nm "value"]) (l:=b.S) (Γc:=gP NT (gP NU cB 19) 21) (hp1:=jT b m lim bo [] [] (nM (.int k) [AG .unb .unb])) (H:=jT b m lim bo [] [] (nM (.int k) [AG .unb .unb])) (own:=false) (u:= .int) (f:=DA k) (okf:=fun M p=>p)
  (fun ds K q=>ok (by kernel_rfl) q) (ad h9 (by decide)) (fun M M M p=>p) (by kernel_rfl)
  (fun p hp=>⟨jT b m lim bo [] [] (nM (.int k) [AG (.int p.1) (.int p.2)]),by
   have i:=h p hp
   unfold DA
   induction z:ur ((p.2-k).fmod p.1) 0 using ah with
   |false=>exact⟨⟨[.b false],ok (by kernel_rfl) (ai i (ai z (rc (u:= .int) [] (jT b m lim bo [] [] (nM (.int k) [AG (.int p.1) (.int p.2)])))))⟩,by kernel_rfl⟩
   |true=>exact⟨⟨[.b true],ok (by kernel_rfl) (ai i (ai z (rc (u:= .int) [1] (jT b m lim bo [] [] (nM (.int k) [AG (.int p.1) (.int p.2)])))))⟩,by kernel_rfl⟩⟩)
  fun K ds q=>ok (by kernel_rfl) (ai (ad (ad (eZ _ (OU k) _) h9) (by decide:9≤bS)) q)
theorem Lq(h: ∀p∈b.S,p.1≠0)(h9:b.S.length≤9):gn (eH G3 n 28 NU cB (jT b m lim bo [] [] [])) (.lst .int (fZ b.S lim)) (jT b m lim bo [] [] []):=
 tF (e:=V.int) (names:=[nm "n"]) (l:=iO 24) (Γc:=gP NU cB 19) (hp1:=jT b m lim bo [] [] (nM .unb [])) (H:=fun v=>jT b m lim bo [] [] (nM v [])) (own:=false) (u:= .int) (f:=xh b.S lim) (okf:=fun M p=>p) V.unb
  (fun ds K q=>ok (by kernel_rfl) (ai (bU (i:=24) rfl) (ai (rfl:aY 0 24 1=true) q))) (by decide) (fun M M M M p=>p) (by kernel_rfl)
  (fun k hk v=>⟨jT b m lim bo [] [] (nM (.int k) []),.int k,by
   have c:=HO (n:=n) (b:=b) (m:=m) (lim:=lim) (bo:=bo) (k:=k) h h9
   unfold xh
   induction z:AB b.S lim k using ah with
   |false=>exact⟨⟨[.r (.lst .int (yA b.S k)) (jT b m lim bo [] [] (nM (.int k) [])),.b false],ok (by kernel_rfl) (ai c (ai z (rc (u:= .int) [] (jT b m lim bo [] [] (nM (.int k) [])))))⟩,by kernel_rfl⟩
   |true=>exact⟨⟨[.r (.lst .int (yA b.S k)) (jT b m lim bo [] [] (nM (.int k) [])),.b true],ok (by kernel_rfl) (ai c (ai z (rc (u:= .int) [k] (jT b m lim bo [] [] (nM (.int k) [])))))⟩,by kernel_rfl⟩⟩)
  fun K ds v q=>ok (by kernel_rfl) (ai (ad (eZ _ (NH b.S lim) _) (by decide:24≤bS):(fZ b.S lim).length≤bS) q)
noncomputable def lV(b:vA)(m lim bo:Int)(l c:List V)(r:List AO):Hp:=jT b m lim bo (.lst .int (fZ b.S lim)::l) c r
theorem JR(h: ∀p∈b.S,p.1≠0)(h9:b.S.length≤9):Goes (bf (fb G3 n 30) [cZ bL 21] cB (jT b m lim bo [] [] [])) .next (lV b m lim bo [] [] []):=fun K d q=>
 ⟨.r (.lst .int (fZ b.S lim)) (jT b m lim bo [] [] [])::d,ok (by kernel_rfl) (ai (Lq (n:=n) (m:=m) (lim:=lim) (bo:=bo) h h9) q)⟩
noncomputable def Cb(b:vA):List Int:=eR b.s.le b.s.wh (fk b.s.le 24 b.s.wh)
structure LJ(b:vA)(lim:Int):Prop where
 a:aH b.s.le
 w:b.s.wh.natAbs<2^30∧b.s.wh≠0
 r:aY b.s.le 24 b.s.wh=true
 l:(Cb b).length≤bS
 e:fZ b.S lim=Cb b
theorem qM(l:List Int):jP (.list .int) l=true:=by
 induction l with
 |nil=>rfl
 |cons x l ih=>exact ih
theorem Gv(h0:(bo==0)=true)(h:LJ b lim):Goes ((fb G3 n 30).ex (cZ bL 22) cB (lV b m lim bo [] [] [])) (.ret (.bool true)) (lV b m lim bo [] [] []):=fun K d q=>by
 have s1:=gA (t:= .list .int) (qM (Cb b)) rfl
 have s2:bc (dat (.list .int) (fZ b.S lim))=true:=h.e▸s1
 have e:PyData.eqv (dat (.list .int) (fZ b.S lim)) (dat (.list .int) (Cb b))=true:=by rw[h.e];exact io (t:= .list .int) (qM (Cb b))
 rw[←e]at q
 exact⟨.b true::d,ok (by kernel_rfl) (ai h0 (ai (⟨h.a,bU (i:=24) rfl,h.w⟩:aH b.s.le∧aH 24∧b.s.wh.natAbs<2^30∧b.s.wh≠0) (ai h.r (ai h.l (ai (⟨s2,s1⟩:bc (dat (.list .int) (fZ b.S lim))=true∧bc (dat (.list .int) (Cb b))=true) q)))))⟩
theorem Gw(h0:(bo==0)=false):Goes (bf (fb G3 n 30) [cZ bL 22] cB (lV b m lim bo [] [] [])) .next (lV b m lim bo [] [] []):=fun K d q=>
 ⟨.b false::d,ok (by kernel_rfl) (ai h0 q)⟩
noncomputable def OG:Expr:=pH (cV (cZ bL 23)) [0]
noncomputable def CP(U:List (den PI)):List (den PI):=jG U (clipAt U.length 1) U.length
noncomputable def we(bo:Int)(p:den PI):List (den PI):=cond (decide (oq p.1≤bo)) [p] []
noncomputable def l5(U:List (den PI))(bo:Int):List (den PI):=(CP U).flatMap (we bo)
theorem OP(bo:Int)(p:den PI):(we bo p).length≤1:=by unfold we;induction decide (oq p.1≤bo)using ah with |false=>exact a9 1|true=>exact av 1
theorem Lp(hz:(CP b.U).length≤1000):gn (eH G3 n 27 OG cB (lV b m lim bo [] [] [])) (.lst PI (l5 b.U bo)) (lV b m lim bo [] [] []):=
 dw (e:=emb PI) (names:=[nm "row"]) (l:=CP b.U) (Γc:=gP OG cB 19) (hp1:=lV b m lim bo [] [] [fh "row" .unb]) (H:=lV b m lim bo [] [] [fh "row" .unb]) (own:=false) (u:=PI) (f:=we bo) (okf:=fun M p=>p)
  (fun ds K q=>ok (by kernel_rfl) (ai (ad hz (by decide):(CP b.U).length≤bS) q)) (ad hz (by decide)) (fun M M M p=>p) (by kernel_rfl)
  (fun p hp=>⟨lV b m lim bo [] [] [fh "row" (emb PI p)],by
   unfold we
   induction z:decide (oq p.1≤bo)using ah with
   |false=>exact⟨⟨[.b false],ok (by kernel_rfl) (ai (rfl:fy 2 0) (ai z (rc (u:=PI) [] (lV b m lim bo [] [] [fh "row" (emb PI p)]))))⟩,by kernel_rfl⟩
   |true=>exact⟨⟨[.b true],ok (by kernel_rfl) (ai (rfl:fy 2 0) (ai z (rc (u:=PI) [p] (lV b m lim bo [] [] [fh "row" (emb PI p)]))))⟩,by kernel_rfl⟩⟩)
  fun K ds q=>ok (by kernel_rfl) (ai (ad (ad (eZ _ (OP bo) _) hz) (by decide:1000≤bS)) q)
noncomputable def Eg(b:vA)(m lim bo:Int)(p:den PI)(l c:List V)(r:List AO):Hp:=lV b m lim bo (.int p.1:: .int p.2::l) c r
theorem JQ{p:den PI}(hz:(CP b.U).length≤1000)(i:fy (l5 b.U bo).length 0)(e:kR (l5 b.U bo) 0=p):Goes (bf (fb G3 n 30) [cZ bL 23] cB (lV b m lim bo [] [] [])) .next (Eg b m lim bo p [] [] []):=fun K d q=>by
 subst e
 exact⟨.r (.lst PI (l5 b.U bo)) (lV b m lim bo [] [] [])::d,ok (by kernel_rfl) (ai (Lp (n:=n) (m:=m) (lim:=lim) (bo:=bo) hz) (ai i q))⟩
theorem JP{p:den PI}{v:Int×Int}(h:uH p.1 p.2 3=some v):Goes (bf (fb G3 (n+13) 30) [cZ bL 24] cB (Eg b m lim bo p [] [] [])) .next (Eg b m lim bo p [.int v.2] [.int v.1] []):=fun K d q=>
 ⟨.r (two v.1 v.2) []::d,ok (by kernel_rfl) (ai (H1 (j:=n) (k:=3) h) q)⟩
end
section
variable{n:Nat}{b:vA}{m lim bo:Int}{p:den PI}{v:Int×Int}
noncomputable def xa(b:vA)(m lim bo:Int)(p:den PI)(v:Int×Int)(l:List V)(r:List AO):Hp:=Eg b m lim bo p (.int v.2::l) [.int v.1] r
noncomputable def Qb:Expr:=cV (cZ bL 25)
noncomputable def Cz(sg o:Int)(q:den PI):Int×Int:=(uH (q.2-sg*o) q.1 3).getD (0,0)
noncomputable def L9(sg o:Int)(q:den PI):List Int:=cond (ur (Cz sg o q).2 0) [q.1] []
noncomputable def FW(S:List (den PI))(sg o:Int):List Int:=S.flatMap (L9 sg o)
theorem Qk(sg o:Int)(q:den PI):(L9 sg o q).length≤1:=by unfold L9;induction ur (Cz sg o q).2 0 using ah with |false=>exact a9 1|true=>exact av 1
structure Ib(sg o:Int)(q:den PI):Prop where
 s:aH sg∧aH o
 d:uH (q.2-sg*o) q.1 3=some (Cz sg o q)
theorem Lo(h: ∀q∈b.S,Ib b.a.sg v.1 q)(h9:b.S.length≤9):gn (eH G3 (n+13) 28 Qb cB (xa b m lim bo p v [] [])) (.lst .int (FW b.S b.a.sg v.1)) (xa b m lim bo p v [] []):=
 dw (e:=emb PI) (names:=[nm "one",nm "value"]) (l:=b.S) (Γc:=gP Qb cB 19) (hp1:=xa b m lim bo p v [] [AG .unb .unb]) (H:=xa b m lim bo p v [] [AG .unb .unb]) (own:=false) (u:= .int) (f:=L9 b.a.sg v.1) (okf:=fun M p=>p)
  (fun ds K q=>ok (by kernel_rfl) q) (ad h9 (by decide)) (fun M M M p=>p) (by kernel_rfl)
  (fun q hq=>⟨xa b m lim bo p v [] [AG (.int q.1) (.int q.2)],by
   have g:=h q hq
   have c:=H1 (j:=n) (k:=3) g.d
   unfold L9
   induction z:ur (Cz b.a.sg v.1 q).2 0 using ah with
   |false=>exact⟨⟨[.r (two (Cz b.a.sg v.1 q).1 (Cz b.a.sg v.1 q).2) [],.b false],ok (by kernel_rfl) (ai g.s (ai c (ai (rfl:fy 2 1) (ai z (rc (u:= .int) [] (xa b m lim bo p v [] [AG (.int q.1) (.int q.2)]))))))⟩,by kernel_rfl⟩
   |true=>exact⟨⟨[.r (two (Cz b.a.sg v.1 q).1 (Cz b.a.sg v.1 q).2) [],.b true],ok (by kernel_rfl) (ai g.s (ai c (ai (rfl:fy 2 1) (ai z (rc (u:= .int) [q.1] (xa b m lim bo p v [] [AG (.int q.1) (.int q.2)]))))))⟩,by kernel_rfl⟩⟩)
  fun K ds q=>ok (by kernel_rfl) (ai (ad (ad (eZ _ (Qk b.a.sg v.1) _) h9) (by decide:9≤bS)) q)
noncomputable def tB(b:vA)(m lim bo:Int)(p:den PI)(v:Int×Int)(y:Int)(r1 r2:V):Hp:=jc b.a b.D b.sd b.sd2 b.tb (.lst PI b.s.sh:: .lst PI b.U:: .int m::r1::r2:: .lst .int (fZ b.S lim):: .int p.1:: .int p.2:: .int v.2:: .lst .int (FW b.S b.a.sg v.1)::[.int y]) (.lst PI b.S:: .int b.s.le:: .int b.s.wh:: .int lim:: .int bo::[.int v.1]) []
theorem JO(h: ∀q∈b.S,Ib b.a.sg v.1 q)(h9:b.S.length≤9):Goes (bf (fb G3 (n+13) 30) [cZ bL 25,cZ bL 26] cB (Eg b m lim bo p [.int v.2] [.int v.1] [])) .next (tB b m lim bo p v 1 .unb .unb):=fun K d q=>
 ⟨.r (.lst .int (FW b.S b.a.sg v.1)) (xa b m lim bo p v [] [])::d,ok (by kernel_rfl) (ai (Lo (n:=n) (m:=m) (lim:=lim) (bo:=bo) (p:=p) h h9) q)⟩
noncomputable def MA:bP:=cZ bL 27
noncomputable abbrev MW(sg o:Int)(q:den PI):Int:=wK (Ai q.1 (q.2-sg*o))
structure FE(sg o:Int)(y:Int)(q:den PI):Prop where
 s:aH sg∧aH o
 l:FA q.1 (q.2-sg*o)
 m:aH y∧aH (MW sg o q)
noncomputable def Kx(sg o:Int)(y:Int)(q:den PI):Int:=y*MW sg o q
theorem Jy(y:Int)(q:den PI)(h:FE b.a.sg v.1 y q): ∃f hp1,eF (eE G3 (n+1) 29 MA cB (emb PI q) (tB b m lim bo p v y .unb .unb)) f hp1∧(f= .next∨f= .cont)∧
  ∀(next:Hp→Ds→Prop) ds,next (tB b m lim bo p v (Kx b.a.sg v.1 y q) .unb .unb) ds→gB 19 [] (forget 0 [nm "one",nm "value"] hp1) fun M hp=>next hp ds:=
 ⟨.next,tB b m lim bo p v (Kx b.a.sg v.1 y q) (.int q.1) (.int q.2),⟨[.r (.int (MW b.a.sg v.1 q)) []],ok (by kernel_rfl) (ai h.s (ai (N9 (n:=n) h.l) (ai h.m (rr Fl.next (tB b m lim bo p v (Kx b.a.sg v.1 y q) (.int q.1) (.int q.2))))))⟩,.inl rfl,fun next ds k=>ok (by kernel_rfl) k⟩
theorem JN{y:Int}(h:gw (FE b.a.sg v.1) (Kx b.a.sg v.1) b.S 1 y):Goes (bf (fb G3 (n+1) 30) [MA] cB (tB b m lim bo p v 1 .unb .unb)) .next (tB b m lim bo p v y .unb .unb):=fun K d k=>by
 obtain⟨e,q⟩:=fP (turn:=eE G3 (n+1) 29 MA cB) (okf:=fun M p=>p) (m:=19) (fr:=0) (names:=[nm "one",nm "value"]) (e:=emb PI) (H:=fun y=>tB b m lim bo p v y .unb .unb) (fun M M p=>p) (Jy (n:=n)) b.S h
  (fun f h' M=>f= .next∧h'=tB b m lim bo p v y .unb .unb) [] ⟨rfl,rfl⟩
 have f:eF (ka G3 (n+1) 29 MA cB (tB b m lim bo p v 1 .unb .unb)) .next (tB b m lim bo p v y .unb .unb):=⟨e,ok (by kernel_rfl) q⟩
 exact⟨.l .next (tB b m lim bo p v y .unb .unb)::d,ok (by kernel_rfl) (ai f k)⟩
noncomputable def wB(x:Int):Bool:= !(Builtin.Range.rangePlace? 0 24 1 x).isSome
noncomputable def wR(l:List Int)(lim:Int):Bool:=decide ((l.length:Int)>lim)
noncomputable def zt(S:List (den PI))(sg lim:Int)(v:Int×Int):Bool:=cond (ur v.2 0) true (cond (wB (sg*v.1)) true (wR (FW S sg v.1) lim))
theorem Gs{y:Int}(hs:aH b.a.sg∧aH v.1)(hb:zt b.S b.a.sg lim v=true)(he:fZ b.S lim=[]):Goes ((fb G3 n 30).ex (cZ bL 28) cB (tB b m lim bo p v y .unb .unb)) (.ret (.bool true)) (tB b m lim bo p v y .unb .unb):=fun K d q=>by
 have s1:bc (dat (.list .int) [])=true:=rfl
 have s2:bc (dat (.list .int) (fZ b.S lim))=true:=he▸s1
 have e:PyData.eqv (dat (.list .int) (fZ b.S lim)) (dat (.list .int) [])=true:=by rw[he];exact io (t:= .list .int) (qM [])
 rw[←e]at q
 have t2:((0≤bS)∧(bc (dat (.list .int) (fZ b.S lim))=true∧bc (dat (.list .int) [])=true)∧K (.ret (.bool (PyData.eqv (dat (.list .int) (fZ b.S lim)) (dat (.list .int) [])))) (tB b m lim bo p v y .unb .unb) d):=⟨by decide,⟨s2,s1⟩,q⟩
 unfold zt at hb
 induction z1:ur v.2 0 using ah with
 |true=>exact⟨.b true:: .b true::d,ok (by kernel_rfl) (ai z1 (ai (rfl:true=true) t2))⟩
 |false=>
  rw[z1]at hb
  induction z2:wB (b.a.sg*v.1)using ah with
  |true=>exact⟨.b false:: .b true:: .b true::d,ok (by kernel_rfl) (ai z1 (ai hs (ai (bU (i:=24) rfl) (ai z2 (ai (rfl:true=true) t2)))))⟩
  |false=>
   rw[z2]at hb
   exact⟨.b false:: .b false:: .b true:: .b true::d,ok (by kernel_rfl) (ai z1 (ai hs (ai (bU (i:=24) rfl) (ai z2 (ai hb (ai (rfl:true=true) t2))))))⟩
theorem Gu{y:Int}(hs:aH b.a.sg∧aH v.1)(hb:zt b.S b.a.sg lim v=false):Goes (bf (fb G3 n 30) [cZ bL 28] cB (tB b m lim bo p v y .unb .unb)) .next (tB b m lim bo p v y .unb .unb):=fun K d q=>by
 unfold zt at hb
 induction z1:ur v.2 0 using ah with
 |true=>rw[z1]at hb;exact bh hb
 |false=>
  rw[z1]at hb
  induction z2:wB (b.a.sg*v.1)using ah with
  |true=>rw[z2]at hb;exact bh hb
  |false=>
   rw[z2]at hb
   exact⟨.b false:: .b false:: .b false:: .b false::d,ok (by kernel_rfl) (ai z1 (ai hs (ai (bU (i:=24) rfl) (ai z2 (ai hb (ai (rfl:qL .Or=false) q))))))⟩
theorem JM{y:Int}(hs:aH b.a.sg∧aH v.1)(he:fZ b.S lim=[b.a.sg*v.1])(hy:(oq p.2==y)=true):Goes (bf (fb G3 n 30) [cZ bL 29] cB (tB b m lim bo p v y .unb .unb)) (.ret (.bool true)) (tB b m lim bo p v y .unb .unb):=fun K d q=>by
 have s1:=gA (t:= .list .int) (qM [b.a.sg*v.1]) rfl
 have s2:bc (dat (.list .int) (fZ b.S lim))=true:=he▸s1
 have e:PyData.eqv (dat (.list .int) (fZ b.S lim)) (dat (.list .int) [b.a.sg*v.1])=true:=by rw[he];exact io (t:= .list .int) (qM [b.a.sg*v.1])
 rw[←hy]at q
 exact⟨.b true::d,ok (by kernel_rfl) (ai hs (ai (by decide:1≤bS) (ai (⟨s2,s1⟩:bc (dat (.list .int) (fZ b.S lim))=true∧bc (dat (.list .int) [b.a.sg*v.1])=true) (ai e q))))⟩
end
noncomputable def dL(ns:List Int):List (den RW):=sT (gg ns)
noncomputable def vU(ns:List Int):List (List Nat):=(dL ns).flatMap rM
noncomputable def pf(ns:List Int):List Nat:=Mf (dL ns) (vU ns)
noncomputable def pg(ns:List Int):List (den HT):=(dL ns).flatMap yB
noncomputable def kC(ns:List Int):Cm:=⟨ns,gg ns,dL ns,IB (gg ns),vU ns,pf ns,pg ns,[],1+mP 10 (pf ns),[]⟩
noncomputable def gF(ns:List Int):List Int:=iU (dL ns)
noncomputable def jO(ns:List Int):List (den AL):=EK (dL ns) (gF ns)
structure Jm(b:vA)(lim bo:Int)(p:den PI)(v:Int×Int)(y:Int):Prop where
 z:(CP b.U).length≤1000
 i:fy (l5 b.U bo).length 0
 ep:kR (l5 b.U bo) 0=p
 dv:uH p.1 p.2 3=some v
 w: ∀q∈b.S,Ib b.a.sg v.1 q
 r:gw (FE b.a.sg v.1) (Kx b.a.sg v.1) b.S 1 y
 s:aH b.a.sg∧aH v.1
 f:(zt b.S b.a.sg lim v=true∧fZ b.S lim=[])∨(zt b.S b.a.sg lim v=false∧fZ b.S lim=[b.a.sg*v.1]∧(oq p.2==y)=true)
def FG(b:vA)(lim bo:Int):Prop:=((bo==0)=true∧LJ b lim)∨((bo==0)=false∧∃p v y,Jm b lim bo p v y)
section
variable{n:Nat}{b:vA}{m lim bo:Int}
def O3(hp:Hp):Prop:=∀K:V→Hp→Prop,K (.bool true) []→nj 0 true (.bool true) hp K
theorem Kv(h9:b.S.length≤9)(h:FG b lim bo): ∃h',Goes (bf (fb G3 (n+14) 30) (bL.drop 22) cB (lV b m lim bo [] [] [])) (.ret (.bool true)) h'∧∀K:V→Hp→Prop,K (.bool true) []→nj 0 ((mM.lookup 339).getD ⟨qA,[],false,false⟩).frz (.bool true) h' K:=by
 have e22:bL.drop 22=cZ bL 22::bL.drop 23:=by kernel_rfl
 refine h.elim (fun h=>⟨_,Eh e22 (Gv h.1 h.2),fun K k=>ok (by kernel_rfl) k⟩) fun h=> ?_
 refine h.2.elim fun p zz=>zz.elim fun v zz=>zz.elim fun y g=> ?_
 have OG:bL.drop 23=cZ bL 23::cZ bL 24::([cZ bL 25,cZ bL 26]++MA::cZ bL 28::[cZ bL 29]):=by kernel_rfl
 refine⟨tB b m lim bo p v y .unb .unb,ca e22 (Gw h.1) (ca OG (JQ g.z g.i g.ep) (ca rfl (JP (n:=n+1) g.dv) (n7 rfl (JO (n:=n+1) g.w h9) (ca rfl (JN (n:=n+13) g.r) ?_)))),fun K k=>ok (by kernel_rfl) k⟩
 exact g.f.elim (fun f=>Eh rfl (Gs g.s f.1 f.2)) fun f=>ca rfl (Gu g.s f.1) (JM g.s f.2.1 f.2.2)
end
structure Oo(ns:List Int)(tb:List (den HT))(S:List (den PI))(s:jM)(U:List (den PI))(m:Int)(l1 l2:zH):Prop where
 col: ∀k∈qc,xN ns k∧fy 10 k
 row: ∀k∈bE,lI (gg ns) k
 sg:PK (gg ns)
 fx: ∀r∈dL ns,xL r
 tx: ∀k∈bE,Ic (dL ns) (vU ns) k
 tl:(pf ns).length≤bS
 rd:zE (pf ns) 9 (pg ns) [] (1+mP 10 (pf ns)) []
 pk:jP (.list HT) (pg ns)=true
 kp:gw tO sf (pg ns) ⟨[],[]⟩ ⟨tb,jO ns⟩
 i13:LL (kC ns) (gF ns) (jO ns) (jO ns) tb
 sp:S.Perm (Gp (dL ns) (gF ns))
 sw:S.Pairwise (fun a b=>a.1<b.1)
 sz: ∀p∈S,p.1≠0
 ch:vF tb (IB (gg ns)) s U
 cm:gw Cp I8 S 1 m
 i18:LK ⟨kC ns,gF ns,jO ns,jO ns,tb,S,s,U⟩ m
 rw: ∀p∈U,Ih ⟨kC ns,gF ns,jO ns,jO ns,tb,S,s,U⟩ p
 ul:U.length≤1000
 lm:FB (LR S) l1 l2
 ed:FG ⟨kC ns,gF ns,jO ns,jO ns,tb,S,s,U⟩ l2.limit l2.bound
theorem Ir(ns:List Int):(dL ns).length=9:=rfl
theorem Mi(ns:List Int):(vU ns).length=9:=rfl
theorem pG{k:Int}(h:k∈bE){n:Nat}(e:n=9):fy n k:=by
 subst e
 have key: ∀k∈bE,fy 9 k:=by unfold fy;decide
 exact key k h
theorem xq{c:Bool}{x y:Int}(h:y∈(cond c [x] []:List Int)):y=x:=by
 cases c with
 |false=>exact nomatch h
 |true=>exact az.mp h
theorem xg{f:Int→List Int}(hf: ∀x y,y∈f x→y=x){l:List Int}{y:Int}(h:y∈l.flatMap f):y∈l:=by
 refine(ce.mp h).elim fun x zz=>zz.elim fun hx hy=> ?_
 exact hf x y hy▸hx
theorem AC{R:List (den RW)}{k:Int}(h:k∈fz R):k∈bE:=xg (f:=BV R) (fun x y h=>xq (c:=mO R x) h) h
theorem Hs{R:List (den RW)}{k:Int}(h:k∈iU R):k∈bE:=AC (xg (f:=BX R (fz R)) (fun x y h=>xq (c:=jQ R (fz R) x) h) h)
theorem Pr{n:Nat}{ns:List Int}{tb:List (den HT)}{S U:List (den PI)}{s:jM}{m:Int}{l1 l2:zH}(h:Oo ns tb S s U m l1 l2):gn (C3 (n+15) 339 [.lst .int ns] []) (.bool true) []:=by
 have h9:S.length≤9:=h.sp.length_eq▸ad (eZ (LO (dL ns)) (fun M=>av 1) _) (BY (dL ns))
 refine(Kv (n:=n) (m:=m) (b:=⟨kC ns,gF ns,jO ns,jO ns,tb,S,s,U⟩) h9 h.ed).elim fun h' zz=>zz.elim fun ge gl=> ?_
 have ik: ∀k∈bE,fy (dL ns).length k:=fun k hk=>pG hk (Ir ns)
 have ifit: ∀k∈fz (dL ns),fy (dL ns).length k:=fun k hk=>ik k (AC hk)
 have ifir: ∀k∈gF ns,fy (dL ns).length k:=fun k hk=>ik k (Hs hk)
 have hR:(dL ns).length≤1000000:=(by decide:9≤1000000)
 have hT:(vU ns).length≤bS:=(by decide:9≤bS)
 have e7:((dL ns).flatMap yB).length≤bS:=(by decide:9≤bS)
 have i7:Qi (kC ns):=⟨rfl,rfl,rfl,rfl,h.pk,hR,e7⟩
 have ef:(dL ns).flatMap FN=vU ns:=NE h.fx
 have g3:=Mv (n:=n+13) (ns:=ns) (C:=gg ns) (sg:=IB (gg ns)) h.fx hR (by rw[ef];exact hT)
 rw[ef]at g3
 have e0:bL=bL.take 2++cZ bL 2::cZ bL 3::cZ bL 4::cZ bL 5::cZ bL 6::cZ bL 7::cZ bL 8::cZ bL 9::cZ bL 10::LP::cZ bL 12::cZ bL 13::cZ bL 14::cZ bL 15::cZ bL 16::MC::cZ bL 18::cZ bL 19::cZ bL 20::cZ bL 21::bL.drop 22:=by kernel_rfl
 exact As (fn:=(mM.lookup 339).getD ⟨qA,[],false,false⟩) (bs:=[(nm "script",.lst .int ns)]) (l:=bL) (Γ:=cB) (by kernel_rfl) (by kernel_rfl) (by kernel_rfl) (by kernel_rfl) (hp1:=Cv ns [] [] []) (fun K k=>ok (by kernel_rfl) k)
  (n7 e0 (Mx h.col) (ca rfl (Mw (Px (n:=n+13) h.row) h.sg) (ca rfl g3 (ca rfl (Mu (n:=n+13) h.fx hR hT) (ca rfl (Mt h.tx h.tl) (ca rfl (Ms (a:=kC ns) (Pv (n:=n+10) h.rd)) (ca rfl (Mr i7) (ca rfl (Mq (a:=kC ns) ik) (ca rfl (Mp (a:=kC ns) ifit) (ca rfl J2
   (ca rfl (J1 (a:=kC ns) (D:=gF ns) ik ifir (BY (dL ns))) (ca rfl (J0 (a:=kC ns) (D:=gF ns) (sd:=jO ns) (Pu (n:=n+10) hR h.kp)) (ca rfl (JZ (n:=n+13) h.i13) (ca rfl (JY (a:=kC ns) ifir (BY (dL ns)) h.sp h.sw)
   (ca rfl (JX (b:=⟨kC ns,gF ns,jO ns,jO ns,tb,S,s,U⟩) (Ps (n:=n) h.ch)) (ca rfl JW (ca rfl (JV (n:=n+13) h.cm) (ca rfl (JU h.i18) (ca rfl (JT h.rw (ad h.ul (by decide))) (ca rfl (JS h9 (Pt (n:=n+13) h.lm)) (ca rfl (JR h.sz h9) ge))))))))))))))))))))) gl
theorem MV{μ a b c d m N E u v:Int}(ha:23*m<a)(hb0:0≤b)(hb:b≤23*m)(h46:46*(m*m)<μ)(hc:0≤c)(hd:0≤d)
  (hE1:0<E) (hE:E≤m) (hN1: -(23*m)≤N) (hN2:N≤23*m) (hu:N*d-E*b=μ*u) (s1:u*a+v*b=N) (s2:d*v-c*u=E):u=0:=by
 have m0:0≤m:=aW (cn hE1) hE
 have n0:0≤23*m:=Int.mul_nonneg (by decide) m0
 have a0:0≤a:=aW n0 (cn ha)
 refine(Int.lt_trichotomy u 0).elim (fun h=> ?_) fun h=>h.elim id fun h=> ?_
 ·have w1:1≤ -u:=Int.neg_pos_of_neg h
  have ua:a≤ -u*a:=aW (Int.le_of_eq (cw a).symm) (Int.mul_le_mul_of_nonneg_right w1 a0)
  have vb:0<v*b:=by
   rw[show v*b= -u*a+N by rw[←s1,Int.neg_mul,Int.neg_add_cancel_left]]
   exact Int.lt_of_lt_of_le (Int.sub_pos_of_lt ha) (Int.add_le_add ua hN1)
  have v0:0<v:=Int.not_le.mp fun h=>absurd vb (dh.mpr (Int.mul_nonpos_of_nonpos_of_nonneg h hb0))
  have dm:d≤m:=by
   refine aW ?_ hE
   rw[←s2,Int.sub_eq_add_neg,←Int.mul_neg]
   exact aW (aW (Int.le_of_eq (Int.mul_one d).symm) (Int.mul_le_mul_of_nonneg_left v0 hd)) (Int.le_add_of_nonneg_right (Int.mul_nonneg hc (aW (by decide) w1)))
  have M0:0≤μ:=cn (dC (Int.mul_nonneg (by decide) (Int.mul_nonneg m0 m0)) h46)
  refine absurd h46 (dh.mpr ?_)
  refine aW (aW (Int.le_of_eq (Int.mul_one μ).symm) (Int.mul_le_mul_of_nonneg_left w1 M0)) ?_
  rw[Int.mul_neg,←hu,Int.neg_sub,Int.sub_eq_add_neg,←Int.neg_mul,show(46:Int)=23+23 from rfl,Int.add_mul]
  exact Int.add_le_add (aW (Int.mul_le_mul hE hb hb0 m0) (Int.le_of_eq (dk ..))) (aW (Int.mul_le_mul_of_nonneg_right (Int.neg_le_of_neg_le hN1) hd) (aW (Int.mul_le_mul_of_nonneg_left dm n0) (Int.le_of_eq (db ..))))
 ·have ua:a≤u*a:=aW (Int.le_of_eq (cw a).symm) (Int.mul_le_mul_of_nonneg_right h a0)
  have vb:v*b<0:=Int.lt_of_add_lt_add_left (a:=u*a) (by rw[s1,Int.add_zero];exact dC hN2 (Int.lt_of_lt_of_le ha ua))
  have v0:v<0:=Int.not_le.mp fun h=>absurd (Int.mul_nonneg h hb0) (Int.not_le.mpr vb)
  exact absurd (s2▸Int.sub_nonpos_of_le (aW (Int.mul_nonpos_of_nonneg_of_nonpos hd (cn v0)) (Int.mul_nonneg hc (cn h)))) (Int.not_le.mpr hE1)
theorem OX{μ a b c d m n E e k k' u v:Int}(hM:0<μ)(ha:23*m<a)(hb0:0≤b)(hb:b≤23*m)(h46:46*(m*m)<μ)(hc:0≤c)(hd:0≤d)
  (he:e=1∨e= -1) (hk:k=e*d) (hk':k'= -(e*c)) (det:a*d+b*c=μ) (hE1:1≤E) (hE:E≤m) (hn0:0≤n) (hn:n≤23)
  (hu:n*E*k-E*b=μ*u) (hv:a*E-k'*(n*E)=μ*v):b=n*k∧d∣E:=by
 have E0:0≤E:=cn hE1
 have hu':e*(n*E)*d-E*b=μ*u:=by rw[←hu,hk,dk (n*E),db e]
 have hv':a*E+c*(e*(n*E))=μ*v:=by rw[←hv,hk',Int.neg_mul,Int.sub_neg,dO e c,db]
 have eN: -(23*m)≤e*(n*E)∧e*(n*E)≤23*m:=by
  have nE0:0≤n*E:=Int.mul_nonneg hn0 E0
  have nE:n*E≤23*m:=Int.mul_le_mul hn hE E0 (by decide)
  refine he.elim (fun h=> ?_) fun h=> ?_
  ·rw[h,cw]
   exact⟨aW (Int.neg_nonpos_of_nonneg (aW nE0 nE)) nE0,nE⟩
  ·rw[h,Int.neg_mul,cw]
   exact⟨Int.neg_le_neg nE,aW (Int.neg_nonpos_of_nonneg nE0) (aW nE0 nE)⟩
 have s2:d*v-c*u=E:=Int.eq_of_mul_eq_mul_left (dg hM) (by rw[Int.mul_sub,dk,dk μ,←hu',←hv',←det];grind)
 have u0:u=0:=MV ha hb0 hb h46 hc hd hE1 hE eN.1 eN.2 hu' (Int.eq_of_mul_eq_mul_left (dg hM) (by rw[Int.mul_add,←db,←db,←hu',←hv',←det];grind)) s2
 rw[u0,Int.mul_zero,Int.sub_zero]at s2
 rw[u0,Int.mul_zero,dO n,db]at hu
 exact⟨(Int.eq_of_mul_eq_mul_left (dg hE1) (Int.sub_eq_zero.mp hu)).symm,v,s2.symm⟩
theorem L0{b:Bool}{P:Prop}(h1:b=true→P)(h2:b=false→P):P:=match b,h1,h2 with
 |true,h1,_=>h1 rfl
 |false,_,h2=>h2 rfl
noncomputable def eu:Nat→Nat→Nat→Int→Int→List (Nat×Int)
 |0,M,Δ,Θ,Λ=>[]
 |f+1,a,b,k',k=>cond (aS b 0) [] ((a%b,k'-(a/b:Nat)*k)::eu f b (a%b) k (k'-(a/b:Nat)*k))
theorem uU{f a b:Nat}{k' k:Int}(h:aS b 0=false):eu (f+1) a b k' k=(a%b,k'-(a/b:Nat)*k)::eu f b (a%b) k (k'-(a/b:Nat)*k):=by
 show cond (aS b 0) _ _=_
 rw[h];rfl
theorem EG{f a b:Nat}{k' k:Int}(h:aS b 0=true):eu (f+1) a b k' k=[]:=by
 show cond (aS b 0) _ _=_
 rw[h];rfl
theorem mC{b:Nat}(h:aS b 0=false):0<b:=dB fun e=>cE (h.symm.trans (by rw[e];rfl))
inductive pd(μ X:Int)(a b:Nat)(k' k:Int):Prop where
 |mk (e c d:Int) (he:e=1∨e= -1) (hc:0≤c) (hd:0≤d) (hk:k=e*d) (hk':k'= -(e*c)) (det:a*d+b*c=μ) (u v:Int) (ra:a-k'*X=μ*v) (rb:b-k*X=μ*u)
theorem zZ{e d k:Int}(he:e=1∨e= -1)(hk:k=e*d):k.natAbs=d.natAbs:=he.elim (fun h=>by rw[hk,h,cw]) fun h=>by rw[hk,h,Int.neg_mul,cw,Int.natAbs_neg]
theorem Gn{r A B C:Int}:r-(A-B)=C+r-A-(C-B):=by grind
theorem pd.step{μ X:Int}{a b:Nat}{k' k:Int}(T:pd μ X a b k' k):pd μ X b (a%b) k (k'-(a/b:Nat)*k):=by
 cases T with |mk e c d he hc hd hk hk' det u v ra rb=>
 have dm:(a:Int)=b*(a/b:Nat)+(a%b:Nat):=by rw[←ci,←dz,Nat.div_add_mod]
 have q0:(0:Int)≤(a/b:Nat):=aK _
 revert dm q0
 generalize ((a/b:Nat):Int)=q
 intro dm q0
 refine⟨-e,d,c+q*d,he.elim (fun h=> .inr (congrArg _ h)) fun h=> .inl (by rw[h];rfl),hd,Int.add_nonneg hc (Int.mul_nonneg q0 hd),?_,?_,?_,v-q*u,u,rb,?_⟩
 ·rw[hk',hk,Int.neg_mul,Int.mul_add,Int.neg_add,dk e,Int.sub_eq_add_neg]
 ·rw[hk,Int.neg_mul,Int.neg_neg]
 ·rw[←det,dm,Int.mul_add,Int.add_mul,db,Int.add_assoc,Int.add_comm]
 ·rw[Int.mul_sub,dk μ q u,←ra,←rb,Int.sub_mul,Int.mul_sub,db,dm,dO q b]
  exact Gn
theorem pd.start(μ X:Nat):pd μ X μ X 0 1:=⟨1,0,1,.inl rfl,Int.le_refl _,by decide,rfl,rfl,by rw[Int.mul_one,Int.mul_zero,Int.add_zero],0,1,by rw[Int.zero_mul,Int.sub_zero,Int.mul_one],by rw[cw,Int.sub_self,Int.mul_zero]⟩
theorem EH{μ:Int}{X:Int}{P:Nat→Int→Prop}(f:Nat): ∀{a b:Nat} {k' k:Int},pd μ X a b k' k→(∀{a b:Nat} {k' k:Int},pd μ X a b k' k→0<a→P b k)→∀x∈eu f a b k' k,P x.1 x.2:=by
 induction f with
 |zero=>exact fun M M M m=>nomatch m
 |succ f ih=>
  intro a b k' k T h x
  refine L0 (b:=aS b 0) (fun q=> ?_) fun q=> ?_
  ·rw[EG q]
   exact fun m=>nomatch m
  ·rw[uU q]
   have T':=T.step
   exact fun m=>(aX.mp m).elim (fun e=>e▸h T' (mC q)) (ih T' h x)
noncomputable def j7(one:Nat)(lB:Int):Nat→Nat→Nat
 |0,d=>d
 |f+1,d=>cond (((d:Int)*lB%(one:Int))==0) d (j7 one lB f (d+1))
noncomputable def fU(one:Nat)(lB:Int):Nat:=j7 one lB one 1
def FC(one:Nat)(lB:Int)(z:Nat):Prop:=1≤z∧z≤one+1∧(z≤one→(one:Int)∣(z:Int)*lB)∧∀j,1≤j→j<z→¬(one:Int)∣(j:Int)*lB
theorem BH{one:Nat}{lB:Int}(f:Nat): ∀{d:Nat},(∀j,1≤j→j<d→¬(one:Int)∣(j:Int)*lB)→d+f=one+1→1≤d→FC one lB (j7 one lB f d):=by
 induction f with
 |zero=>exact fun{d} h e h2=>⟨h2,aC e,fun z=>absurd (ad (aC e.symm) z) (Nat.not_succ_le_self one),h⟩
 |succ f ih=>
  intro d h e h2
  show FC one lB (cond (((d:Int)*lB%(one:Int))==0) d (j7 one lB f (d+1)))
  refine L0 (b:=((d:Int)*lB%(one:Int))==0) (fun q=> ?_) fun q=> ?_
  ·rw[q]
   exact⟨h2,ad (aG d (f+1)) (aC e),fun M=>Int.dvd_of_emod_eq_zero (eq_of_beq q),h⟩
  ·rw[q]
   refine ih (d:=d+1) (fun j j1 j2=>(Nat.eq_or_lt_of_le (bD j2)).elim (fun w=> ?_) (h j j1)) ((Nat.succ_add d f).trans e) (Nat.le_succ_of_le h2)
   exact fun z=>cE (q.symm.trans (by rw[←w,Int.emod_eq_zero_of_dvd z];rfl))
structure FD(one:Nat)(lB:Int)(z:Nat):Prop where
 pos:1≤z
 le:z≤one
 dvd:(one:Int)∣(z:Int)*lB
 least: ∀j:Int,(one:Int)∣j*lB→(z:Int)∣j
theorem jx{one:Nat}(h1:1≤one)(lB:Int):FD one lB (fU one lB):=by
 have l:=BH (one:=one) (lB:=lB) one (d:=1) (fun j a b=>absurd (aj a b) (Nat.lt_irrefl 1)) (bK 1 one) (av _)
 revert l
 unfold fU
 generalize j7 one lB one 1=z
 intro l
 have le:z≤one:=bY.mp fun w=>absurd (Int.dvd_mul_right (one:Int) lB) (l.2.2.2 one h1 w)
 refine⟨l.1,le,l.2.2.1 le,fun j hj=> ?_⟩
 have z0:(0:Int)<z:=dy.mpr l.1
 refine Int.dvd_of_emod_eq_zero (Int.le_antisymm (dh.mp fun w=> ?_) (Int.emod_nonneg j (dg z0)))
 refine(cW (cn w)).elim fun n hn=>l.2.2.2 n (dy.mp (hn▸w)) (bR.mp (hn▸Int.emod_lt_of_pos j z0)) ?_
 rw[←hn,Int.emod_def,Int.sub_mul,Int.mul_right_comm]
 exact Int.dvd_sub hj (dJ (l.2.2.1 le) (Int.dvd_mul_right _ _))
theorem FD.one{one:Nat}{lB:Int}{z:Nat}(L:FD one lB z)(h:lB%(one:Int)=0):z=1:=
 cK (bN.mp (Int.le_of_dvd (by decide) (L.least 1 (by rw[cw];exact Int.dvd_of_emod_eq_zero h)))) L.pos
theorem FD.dvd_one{one:Nat}{lB:Int}{z:Nat}(L:FD one lB z):z∣one:=Int.natCast_dvd_natCast.mp (L.least one (Int.dvd_mul_right _ _))
noncomputable def bx:List Nat→Nat
 |[]=>1
 |a::r=>a*bx r
noncomputable def lE:List Nat→Bool
 |[]=>true
 |a::r=>aS (Nat.gcd a (bx r)) 1&&lE r
noncomputable abbrev Sh:=List (Nat×Int)
noncomputable def bX(S:Sh):List Nat:=S.map (·.1)
noncomputable def fY(S:Sh)(n:Int):List Nat:=S.map fun p=>fU p.1 (p.2-n)
noncomputable def fA(S:Sh)(n:Int):List Nat:=(S.filter fun p=> !((p.2-n)%(p.1:Int)==0)).map (·.1)
theorem qx{l:List Nat}(h: ∀x∈l,1≤x):1≤bx l:=by
 induction l with
 |nil=>exact av _
 |cons a r ih=>exact Nat.mul_pos (h a (.head _)) (ih fun x m=>h x (.tail _ m))
theorem BF{S:Sh}{n:Int}(h: ∀p∈S,1≤p.1):bx (fY S n)∣bx (bX S):=by
 induction S with
 |nil=>exact Nat.dvd_refl _
 |cons p S ih=>exact Nat.mul_dvd_mul (jx (h p (.head _)) _).dvd_one (ih fun x m=>h x (.tail _ m))
theorem wz{S:Sh}(hc:lE (bX S)=true){z:Int}(h: ∀p∈S,(p.1:Int)∣z):(bx (bX S):Int)∣z:=by
 induction S with
 |nil=>exact Int.one_dvd z
 |cons p S ih=>
  have q:=aM.mp (show(aS (Nat.gcd p.1 (bx (bX S))) 1&&lE (bX S))=true from hc)
  have c:Nat.Coprime p.1 (bx (bX S)):=aV q.1
  have a:=Int.ofNat_dvd_left.mp (h p (.head _))
  have b:=Int.ofNat_dvd_left.mp (ih q.2 fun x m=>h x (.tail _ m))
  exact Int.ofNat_dvd_left.mpr (Nat.Coprime.mul_dvd_of_dvd_of_dvd c a b)
theorem o0{S:Sh}{z:Int}(h:(bx (bX S):Int)∣z): ∀p∈S,(p.1:Int)∣z:=by
 induction S with
 |nil=>exact fun M m=>nomatch m
 |cons p S ih=>
  have e:(bx (bX (p::S)):Int)=(p.1:Int)*(bx (bX S):Int):=ci ..
  intro x m
  rcases aX.mp m with rfl|m
  ·exact dJ ⟨_,e⟩ h
  ·exact ih (dJ ⟨_,e.trans (dO ..)⟩ h) x m
theorem BG{S:Sh}{n:Int}(h1: ∀p∈S,1≤p.1)(hc:lE (bX S)=true){z:Int}(h: ∀p∈S,(fU p.1 (p.2-n):Int)∣z):(bx (fY S n):Int)∣z:=by
 induction S with
 |nil=>exact Int.one_dvd z
 |cons p S ih=>
  have q:=aM.mp (show(aS (Nat.gcd p.1 (bx (bX S))) 1&&lE (bX S))=true from hc)
  have h1': ∀p∈S,1≤p.1:=fun x m=>h1 x (.tail _ m)
  have c:Nat.Coprime p.1 (bx (bX S)):=aV q.1
  have c:Nat.Coprime (fU p.1 (p.2-n)) (bx (fY S n)):=(c.coprime_dvd_left (jx (h1 p (.head _)) _).dvd_one).coprime_dvd_right (BF h1')
  have a:=Int.ofNat_dvd_left.mp (h p (.head _))
  have b:=Int.ofNat_dvd_left.mp (ih h1' q.2 fun x m=>h x (.tail _ m))
  exact Int.ofNat_dvd_left.mpr (Nat.Coprime.mul_dvd_of_dvd_of_dvd c a b)
theorem DR{S:Sh}{n:Int}: ∀p∈S,(fU p.1 (p.2-n):Int)∣(bx (fY S n):Int):=by
 induction S with
 |nil=>exact fun M m=>nomatch m
 |cons p S ih=>
  have e:(bx (fY (p::S) n):Int)=(fU p.1 (p.2-n):Int)*(bx (fY S n):Int):=ci ..
  intro x m
  rcases aX.mp m with rfl|m
  ·exact⟨_,e⟩
  ·exact dJ (ih x m) ⟨_,e.trans (dO ..)⟩
theorem DQ{S:Sh}{n:Int}(h1: ∀p∈S,1≤p.1):bx (fY S n)≤bx (fA S n):=by
 induction S with
 |nil=>exact av _
 |cons p S ih=>
  have ih:=ih fun x m=>h1 x (.tail _ m)
  have L:=jx (h1 p (.head _)) (p.2-n)
  cases q:(p.2-n)%(p.1:Int)==0 with
  |true=>
   have e:fA (p::S) n=fA S n:=by unfold fA;rw[List.filter_cons,q];rfl
   rw[e]
   show fU p.1 (p.2-n)*bx (fY S n)≤_
   rw[L.one (eq_of_beq q),dR]
   exact ih
  |false=>
   have e:fA (p::S) n=p.1::fA S n:=by unfold fA;rw[List.filter_cons,q];rfl
   rw[e]
   exact Nat.mul_le_mul L.le ih
theorem qg{a b c:Int}:a-b+(b-c)=a-c:=by rw[←Int.add_sub_assoc,Int.sub_add_cancel]
theorem Mm{a b c:Int}:a-c-(a-b)=b-c:=by grind
theorem Pn{n L k b X:Int}:n*L*k-L*b= -k*(L*(X-n))-L*(b-k*X):=by grind
theorem Pm{n L k a X:Int}:a*L-k*(n*L)=k*(L*(X-n))+L*(a-k*X):=by grind
theorem ti{S:Sh}(h1: ∀p∈S,1≤p.1){n:Int}:1≤bx (fY S n):=qx fun x m=>(aP.mp m).elim fun p q=>q.2▸(jx (h1 p q.1) _).pos
theorem Lk{S:Sh}(h1: ∀p∈S,1≤p.1)(hc:lE (bX S)=true){X:Int}(hX: ∀p∈S,(p.1:Int)∣X-p.2){most a b:Nat}{k' k:Int}(T:pd (bx (bX S):Nat) X a b k' k)
  (ha:23*most<a) (hb:b≤23*most) (h46:46*(most*most)<bx (bX S)) {n:Nat} (hn:n<24) (hw:bx (fA S n)≤most):(b:Int)=n*k∧k.natAbs=bx (fY S n):=by
 cases T with |mk e c d he hc' hd hk hk' det u v ra rb=>
 have w:((bx (bX S):Nat):Int)∣(bx (fY S n):Nat)*(X-n):=wz hc fun p m=>by
  have a2:(p.1:Int)∣(bx (fY S n):Nat)*(p.2-n):=(DR (n:=n) p m).elim fun z hz=>by
   rw[hz,db,dO z,←db]
   exact dJ (jx (h1 p m) _).dvd (Int.dvd_mul_right _ _)
  rw[←qg (b:=p.2),Int.mul_add]
  exact Int.dvd_add (dJ (hX p m) (Int.dvd_mul_left _ _)) a2
 refine w.elim fun w hw'=> ?_
 have r:=OX (m:=most) (n:=n) (E:=(bx (fY S n):Nat)) (u:= -k*w-(bx (fY S n):Nat)*u) (v:=k'*w+(bx (fY S n):Nat)*v) (dy.mpr (Nat.zero_lt_of_lt h46)) (bR.mpr ha) (aK b) (bN.mpr hb) (bR.mpr h46) hc' hd he hk hk' det
  (bN.mpr (ti h1)) (bN.mpr (ad (DQ h1) hw)) (aK n) (bN.mpr (bD hn)) (by rw[Int.mul_sub,dk _ (-k),dk _ _ u,←hw',←rb];exact Pn) (by rw[Int.mul_add,dk _ k',dk _ _ v,←hw',←ra];exact Pm)
 have Ek:((bx (fY S n):Nat):Int)∣k:=BG h1 hc fun p m=>(jx (h1 p m) _).least k (by
  have q1:(p.1:Int)∣k*(X-n):=by
   rw[Int.mul_sub,dO k n,←r.1,←Int.neg_sub,rb,←Int.mul_neg]
   exact dJ (o0 (Int.dvd_refl _) p m) (Int.dvd_mul_right _ _)
  rw[←Mm (a:=X),Int.mul_sub]
  exact Int.dvd_sub q1 (dJ (hX p m) (Int.dvd_mul_left _ _)))
 exact⟨r.1,Nat.dvd_antisymm (zZ he hk▸Int.natAbs_dvd_natAbs.mpr r.2) (Int.ofNat_dvd_left.mp Ek)⟩
noncomputable def om(size:Nat)(v:Int)(fW:Nat):Nat→Nat→Nat
 |0,l=>l
 |f+1,l=>om size v fW f (cond (((l:Int)-v)%(size:Int)==0) l (l+fW))
theorem HH{size:Nat}{v:Int}{fW:Nat}(f:Nat): ∀{J l:Nat},J≤f→(∃j,j≤J∧(size:Int)∣((l+j*fW:Nat):Int)-v)→∃j,j≤J∧om size v fW f l=l+j*fW∧(size:Int)∣((l+j*fW:Nat):Int)-v:=by
 induction f with
 |zero=>
  refine fun{J l} h z=>z.elim fun j z=> ?_
  obtain rfl:=Nat.le_zero.mp (ad z.1 h)
  exact⟨0,a9 _,by rw[Nat.zero_mul];rfl,z.2⟩
 |succ f ih=>
  refine fun{J l} h z=>z.elim fun j z=> ?_
  show ∃j,j≤J∧om size v fW f (cond (((l:Int)-v)%(size:Int)==0) l (l+fW))=l+j*fW∧_
  refine L0 (b:=((l:Int)-v)%(size:Int)==0) (fun q=> ?_) fun q=> ?_
  ·rw[q]
   exact(ih (J:=0) (l:=l) (a9 _) ⟨0,av _,by rw[Nat.zero_mul];exact Int.dvd_of_emod_eq_zero (eq_of_beq q)⟩).elim fun i hi=>⟨i,ad hi.1 (a9 J),hi.2⟩
  ·rw[q]
   revert z
   refine Nat.casesOn j (fun z=> ?_) fun j z=> ?_
   ·rw[Nat.zero_mul,Nat.add_zero]at z
    exact absurd (q.symm.trans (by rw[Int.emod_eq_zero_of_dvd z.2];rfl)) cE
   ·refine(Nat.exists_eq_add_one.mpr (aA (Nat.succ_pos j) z.1)).elim fun J' e=> ?_
    subst e
    have s: ∀i,l+(i+1)*fW=l+fW+i*fW:=fun i=>by rw[Nat.succ_mul,bK (i*fW),da]
    rw[s]at z
    exact(ih (J:=J') (l:=l+fW) (Nat.le_of_succ_le_succ h) ⟨j,Nat.le_of_succ_le_succ z.1,z.2⟩).elim fun i hi=>⟨i+1,cM hi.1,by rw[s];exact hi.2⟩
noncomputable def Lm(b pre:Nat):Bool:=(cX b).all fun x=>(cX b).any fun j=>aS ((x+j*pre)%b) 0
noncomputable def ES(pre:Nat):List Nat→Bool
 |[]=>true
 |b::r=>Lm b pre&&ES (pre*b) r
theorem HJ{b pre:Nat}(hb:1≤b)(h:Lm b pre=true)(l:Nat)(v:Int): ∃j,j≤b-1∧(b:Int)∣((l+j*pre:Nat):Int)-v:=by
 have b0:(0:Int)<b:=dy.mpr hb
 refine(cW (Int.emod_nonneg ((l:Int)-v) (dg b0))).elim fun x hx=> ?_
 refine(List.any_eq_true.mp (ay.mp h x (cI.mpr (bR.mp (hx▸Int.emod_lt_of_pos ((l:Int)-v) b0))))).elim fun j hj=> ?_
 refine(Nat.dvd_of_mod_eq_zero (aV hj.2)).elim fun q hq=>⟨j,Nat.le_sub_one_of_lt (cI.mp hj.1),((l:Int)-v)/b+q,?_⟩
 rw[Int.mul_add,←ci b q,←hq,dz x,←hx,←Int.add_assoc,Int.mul_ediv_add_emod,dz,Int.add_comm (l:Int),Int.add_sub_assoc,Int.add_comm]
noncomputable def EQ:Sh→Nat→Nat→Nat
 |[],l,M=>l
 |p::S,l,w=>EQ S (om p.1 p.2 w p.1 l) (w*p.1)
theorem Ll(S:Sh): ∀{l w:Nat} (_: ∀p∈S,1≤p.1) (_:ES w (bX S)=true) (_:l<w),EQ S l w<w*bx (bX S)∧(w:Int)∣(EQ S l w:Int)-l∧∀p∈S,(p.1:Int)∣(EQ S l w:Int)-p.2:=by
 induction S with
 |nil=>exact fun{l w} M M h=>⟨aA h (aC (Nat.mul_one w).symm),⟨0,by rw[Int.mul_zero];exact Int.sub_self _⟩,fun M m=>nomatch m⟩
 |cons p S ih=>
  intro l w h1 hc hl
  have q:=aM.mp (show(Lm p.1 w&&ES (w*p.1) (bX S))=true from hc)
  have p1:=h1 p (.head _)
  refine(HH (size:=p.1) (v:=p.2) (fW:=w) p.1 (J:=p.1-1) (l:=l) (Nat.sub_le _ _) (HJ p1 q.1 l p.2)).elim fun j hj=> ?_
  have lt:l+j*w<w*p.1:=aA (Nat.add_lt_add_of_lt_of_le hl (dE w hj.1)) (aC (by rw[bK,←Nat.succ_mul,Nat.succ_eq_add_one,Nat.sub_add_cancel p1,Nat.mul_comm]))
  have i:=ih (l:=l+j*w) (w:=w*p.1) (fun x m=>h1 x (.tail _ m)) q.2 lt
  show EQ S (om p.1 p.2 w p.1 l) (w*p.1)<w*(p.1*bx (bX S))∧(w:Int)∣(EQ S (om p.1 p.2 w p.1 l) (w*p.1):Int)-l∧∀x∈p::S,(x.1:Int)∣(EQ S (om p.1 p.2 w p.1 l) (w*p.1):Int)-x.2
  rw[hj.2.1]
  revert i
  generalize EQ S (l+j*w) (w*p.1)=A
  intro i
  refine⟨by rw[←Nat.mul_assoc];exact i.1,?_,fun x m=>(aX.mp m).elim (fun e=> ?_) (i.2.2 x)⟩
  ·rw[←Int.sub_add_cancel ((A:Int)-l) ((j*w:Nat):Int),Int.sub_sub,←dz]
   exact Int.dvd_add (dJ ⟨(p.1:Int),ci ..⟩ i.2.1) ⟨(j:Int),by rw[ci,dO]⟩
  ·rw[e,←qg (b:=((l+j*w:Nat):Int))]
   exact Int.dvd_add (dJ ⟨(w:Int),by rw[ci,dO]⟩ i.2.1) hj.2.2
noncomputable def fin:Nat→Nat→Nat→Bool
 |0,M,b=>aS b 0
 |f+1,a,b=>aS b 0||fin f b (a%b)
noncomputable def uS:Nat→Nat
 |0=>1
 |1=>1
 |n+2=>uS n+uS (n+1)
theorem La(f:Nat): ∀{a b:Nat},b<a→fin f a b=false→uS f≤b∧uS (f+1)≤a:=by
 induction f with
 |zero=>
  exact fun{a b} h q=>⟨mC q,aj (a9 b) h⟩
 |succ f ih=>
  intro a b h q
  have q:=Bool.or_eq_false_iff.mp (show(aS b 0||fin f b (a%b))=false from q)
  have b0:=mC q.1
  have i:=ih (dM a b0) q.2
  refine⟨i.2,ad (bV i.1 i.2) ?_⟩
  rw[bK]
  exact ad (aT (cy b (Nat.div_pos (bJ h) b0)) _) (aC (Nat.div_add_mod a b))
theorem AE{f a b:Nat}(h:b<a)(hf:a<uS (f+1)):fin f a b=true:=Bool.not_eq_false _▸fun q=>absurd (La f h q).2 (Nat.not_le.mpr hf)
theorem xi{f a b:Nat}(q:fin (f+1) a b=true)(h:aS b 0=false):fin f b (a%b)=true:=(Bool.or_eq_true_iff.mp (show(aS b 0||fin f b (a%b))=true from q)).elim (fun e=>absurd (h.symm.trans e) cE) id
theorem BW{μ X:Int}{c:Nat}(f:Nat): ∀{a b:Nat} {k' k:Int},pd μ X a b k' k→c<a→fin f a b=true→
  ∃a1 b1 k1' k1,pd μ X a1 b1 k1' k1∧c<a1∧b1≤c∧(((b,k)::eu f a b k' k).find? fun x=>bz x.1 c)=some (b1,k1):=by
 have fst: ∀{b:Nat} {k:Int} {l:List (Nat×Int)},b≤c→(((b,k)::l).find? fun x=>bz x.1 c)=some (b,k):=fun h=>by rw[List.find?_cons,a8 h]
 induction f with
 |zero=>
  intro a b k' k T h q
  have b0:=aV (show aS b 0=true from q)
  have hb:b≤c:=b0▸a9 c
  exact⟨a,b,k',k,T,h,hb,fst hb⟩
 |succ f ih=>
  intro a b k' k T h q
  refine(Nat.lt_or_ge c b).elim (fun hb=> ?_) fun hb=>⟨a,b,k',k,T,h,hb,fst hb⟩
  have b0:aS b 0=false:=dj.mpr fun z=>Nat.not_lt_zero c (aV z▸hb)
  have i:=ih T.step hb (xi q b0)
  rw[List.find?_cons,dj.mpr fun z=>Nat.not_le.mpr hb (aq z),uU b0]
  exact i
theorem BE{μ X:Int}(f:Nat): ∀{a b:Nat} {k' k:Int},pd μ X a b k' k→fin f a b=true→
  ∃pre g k1 k2,(a,k')::(b,k)::eu f a b k' k=pre++[(g,k1),(0,k2)]∧g=Nat.gcd a b∧(k2.natAbs:Int)*g=μ:=by
 have fin: ∀{a b:Nat} {k' k:Int} {r:List (Nat×Int)},pd μ X a b k' k→aS b 0=true→r=[]→∃pre g k1 k2,(a,k')::(b,k)::r=pre++[(g,k1),(0,k2)]∧g=Nat.gcd a b∧(k2.natAbs:Int)*g=μ:=fun{a b k' k r} T q e=>by
  obtain rfl:=aV q
  cases T with |mk e c d he hc hd hk hk' det u v ra rb=>
  refine⟨[],a,k',k,by rw[‹r=[]›];rfl,(Nat.gcd_zero_right a).symm,?_⟩
  rw[zZ he hk,Int.natAbs_of_nonneg hd,←det,dO]
  exact((congrArg _ (Int.zero_mul c)).trans (Int.add_zero _)).symm
 induction f with
 |zero=>exact fun T q=>fin T q rfl
 |succ f ih=>
  intro a b k' k T q
  refine L0 (b:=aS b 0) (fun z=>fin T z (EG z)) fun z=> ?_
  refine(ih T.step (xi q z)).elim fun pre i=>i.elim fun g i=>i.elim fun k1 i=>i.elim fun k2 i=>⟨(a,k')::pre,g,k1,k2,?_,?_,i.2.2⟩
  ·rw[uU z]
   exact congrArg ((a,k'):: ·) i.1
  ·rw[i.2.1,Nat.gcd_comm b (a%b),Nat.gcd_comm a b]
   exact(Nat.gcd_rec b a).symm
noncomputable def gK:List Nat:=[5,7,8,9,11,13,17]
noncomputable def nP:List Nat→List (List Nat)
 |[]=>[[]]
 |a::r=>(nP r).map (a:: ·)++nP r
noncomputable def IR(size:Nat):List Nat→Nat→Nat→Nat×Nat→Nat×Nat
 |[],M,Δ,x=>x
 |a::r,many,most,x=>IR size r (many+1) (most*a) (cond (dZ (46*most*most) size) (many,23*most) x)
noncomputable def lim(l:List Nat):Nat×Nat:=IR (bx l) (l.reverse++[1]) 0 1 (0,0)
noncomputable def N5(l:List Nat):Bool:=
 lE l&&ES 1 l&&dZ (bx l) (uS 39)&&cond (aS (lim l).2 0) (bz (bx l) 46&&aS (lim l).1 0)
  (aS (23*((lim l).2/23)) (lim l).2&&dZ (46*(((lim l).2/23)*((lim l).2/23))) (bx l)&&bz 1 ((lim l).2/23)&&(nP l).all fun t=>cond (bz t.length (lim l).1) (bz (bx t) ((lim l).2/23)) true)
theorem HS:(nP gK).all N5=true:=by decide+kernel
theorem oX(p:Nat→Bool): ∀l:List Nat,l.filter p∈nP l
 |[]=> .head _
 |a::r=>by
  rw[List.filter_cons]
  cases p a with
  |true=>exact cY _ (List.mem_map_of_mem (oX p r))
  |false=>exact dl _ (oX p r)
theorem xS(S:Sh)(n:Int):fA S n∈nP (bX S):=by
 induction S with
 |nil=>exact .head _
 |cons p S ih=>
  unfold fA
  rw[List.filter_cons]
  cases !((p.2-n)%(p.1:Int)==0)with
  |true=>exact cY _ (List.mem_map_of_mem ih)
  |false=>exact dl _ ih
structure ki(S:Sh):Prop where
 one: ∀p∈S,1≤p.1
 co:lE (bX S)=true
 cov:ES 1 (bX S)=true
 few:bx (bX S)<uS 39
 lim:((lim (bX S)).2=0∧bx (bX S)≤46∧(lim (bX S)).1=0)∨∃most,(lim (bX S)).2=23*most∧1≤most∧46*(most*most)<bx (bX S)∧∀n,(fA S n).length≤(lim (bX S)).1→bx (fA S n)≤most
theorem CT{l:List Nat}: ∀{t},t∈nP l→∀x∈t,x∈l:=by
 induction l with
 |nil=>intro t m x mx;obtain rfl:=az.mp m;exact nomatch mx
 |cons a r ih=>
  intro t m x mx
  rcases cJ.mp m with m|m
  ·obtain⟨u,mu,rfl⟩:=aP.mp m
   rcases aX.mp mx with rfl|mx
   ·exact .head _
   ·exact .tail _ (ih mu x mx)
  ·exact .tail _ (ih m x mx)
theorem i9{S:Sh}(h:bX S∈nP gK):ki S:=by
 have c:=ay.mp HS _ h
 unfold N5 at c
 obtain⟨c,c4⟩:=aM.mp c
 obtain⟨c,c3⟩:=aM.mp c
 obtain⟨c1,c2⟩:=aM.mp c
 refine⟨fun p m=> ?_,c1,c2,aq c3,?_⟩
 ·have:=CT h p.1 (List.mem_map_of_mem m)
  revert this
  exact fun m=>List.forall_mem_cons.mpr ⟨by decide,by decide⟩ p.1 m
 ·cases q:aS (lim (bX S)).2 0 with
  |true=>
   rw[q]at c4
   obtain⟨a,b⟩:=aM.mp c4
   exact .inl ⟨aV q,aq a,aV b⟩
  |false=>
   rw[q]at c4
   obtain⟨c4,d⟩:=aM.mp c4
   refine(aM.mp c4).elim fun c4 c=> ?_
   obtain⟨a,b⟩:=aM.mp c4
   refine .inr ⟨(lim (bX S)).2/23,(aV a).symm,aq c,aq b,fun n hn=> ?_⟩
   have:=ay.mp d _ (xS S n)
   rw[a8 hn]at this
   exact aq this
noncomputable def qX(S:Sh):List Nat:=(cX 24).filter fun n=>bz (fA S n).length (lim (bX S)).1
theorem qY{p:Nat→Bool}{t:Nat}: ∀{l:List Nat},l.Nodup→t∈l→p t=true→(∀n∈l,p n=true→n=t)→l.filter p=[t]
 |[],_,m,_,_=>nomatch m
 |a::r,nd,m,ht,h=>by
  have nd:=List.nodup_cons.mp nd
  refine L0 (b:=p a) (fun q=> ?_) fun q=> ?_
  ·rw[List.filter_cons_of_pos q,List.filter_eq_nil_iff.mpr fun n mn e=>nd.1 ((h n (.tail _ mn) e).trans (h a (.head _) q).symm▸mn),h a (.head _) q]
  ·rw[List.filter_cons_of_neg fun z=>cE (q.symm.trans z)]
   exact(aX.mp m).elim (fun e=>absurd (q.symm.trans (e▸ht)) cE) fun m=>qY nd.2 m ht fun n mn=>h n (.tail _ mn)
theorem nc{S:Sh}{n:Nat}:n∈qX S↔n<24∧(fA S n).length≤(lim (bX S)).1:=by
 unfold qX
 rw[cf,cI]
 exact⟨fun h=>⟨h.1,aq h.2⟩,fun h=>⟨h.1,a8 h.2⟩⟩
structure L4(S:Sh)(X:Nat):Prop where
 lt:X<bx (bX S)
 eq: ∀p∈S,(p.1:Int)∣(X:Int)-p.2
theorem HG{S:Sh}(h:ki S):L4 S (EQ S 0 1):=
 have r:=Ll S (l:=0) (w:=1) h.one h.cov (by decide)
 ⟨aA r.1 (aC (dR _)),r.2.2⟩
noncomputable def ui(μ X:Nat):List (Nat×Int):=(μ,0)::(X,1)::eu 38 μ X 0 1
theorem Pg:uS 39=uS (38+1):=rfl
theorem wD{S:Sh}{n:Int}:fA S n=[]↔∀p∈S,(p.1:Int)∣p.2-n:=by
 unfold fA
 rw[List.map_eq_nil_iff,List.filter_eq_nil_iff]
 exact⟨fun h p m=>L0 (b:=(p.2-n)%(p.1:Int)==0) (fun q=>Int.dvd_of_emod_eq_zero (eq_of_beq q)) fun q=>absurd (by rw[q];rfl) (h p m),fun h p m=>by rw[Int.emod_eq_zero_of_dvd (h p m)];exact cE⟩
theorem sR{S:Sh}(hc:lE (bX S)=true){X:Nat}(R:L4 S X){n:Nat}:(fA S n).length≤0↔n%bx (bX S)=X:=by
 constructor
 ·intro e
  have all:=wD.mp (List.eq_nil_of_length_eq_zero (Nat.le_zero.mp e))
  have d:=wz hc fun p m=>qg▸Int.dvd_add (R.eq p m) (all p m)
  exact(Int.ofNat.inj (show((X%bx (bX S):Nat):Int)=((n%bx (bX S):Nat):Int)from Int.emod_eq_emod_iff_emod_sub_eq_zero.mpr (Int.emod_eq_zero_of_dvd d))).symm.trans (Nat.mod_eq_of_lt R.lt)
 ·intro e
  have d:=Int.dvd_of_emod_eq_zero (Int.emod_eq_emod_iff_emod_sub_eq_zero.mp (show(X:Int)%(bx (bX S):Nat)=(n:Int)%(bx (bX S):Nat)from congrArg Int.ofNat ((Nat.mod_eq_of_lt R.lt).trans e.symm)))
  rw[wD.mpr fun p m=>Mm▸Int.dvd_sub (o0 d p m) (R.eq p m)]
  exact av _
theorem DE{S:Sh}(h:ki S){X:Nat}(R:L4 S X)(h0:(lim (bX S)).2=0):bx (bX S)≤46∧qX S=(cX 24).filter fun n=>aS (n%bx (bX S)) X:=
 h.lim.elim (fun z=>⟨z.2.1,List.filter_congr fun n M=>by
  rw[z.2.2]
  exact Bool.eq_iff_iff.mpr ⟨fun q=>Nat.beq_eq.mpr ((sR h.co R).mp (aq q)),fun q=>a8 ((sR h.co R).mpr (aV q))⟩⟩)
  fun z=>z.elim fun most z=>absurd (z.1.symm.trans h0) (cx (Nat.mul_pos (by decide) z.2.1))
theorem xT{S:Sh}(h:ki S){X:Nat}(R:L4 S X)(h0:(lim (bX S)).2≠0): ∃b k,((ui (bx (bX S)) X).tail.find? fun x=>bz x.1 (lim (bX S)).2)=some (b,k)∧∀n∈qX S,(b:Int)=n*k∧k.natAbs=bx (fY S n):=by
 refine h.lim.elim (fun z=>absurd z.1 h0) fun z=>z.elim fun most z=> ?_
 rw[z.1]
 exact(BW (c:=23*most) 38 (pd.start (bx (bX S)) X) (aj (Nat.mul_le_mul (by decide) (cy most z.2.1)) z.2.2.1) (AE R.lt h.few)).elim fun a1 i=>i.elim fun b1 i=>i.elim fun k1' i=>i.elim fun k1 i=>
  ⟨b1,k1,i.2.2.2,fun n m=>Lk h.one h.co R.eq i.1 i.2.1 i.2.2.1 z.2.2.1 (nc.mp m).1 (z.2.2.2 n (nc.mp m).2)⟩
theorem ON{S:Sh}(h:ki S){b:Nat}{k σ:Int}(hs:σ=1∨σ= -1)(hf: ∀n∈qX S,(b:Int)=n*k∧k.natAbs=bx (fY S n)){often rest:Int}(ho:often=Int.fdiv (σ*b) k)(hr:rest=Int.fmod (σ*b) k):
  (rest=0∧0≤σ*often∧σ*often<24∧(fA S (σ*often)).length≤(lim (bX S)).1→qX S=[(σ*often).toNat]∧k.natAbs=bx (fY S (σ*often)))∧
  (¬(rest=0∧0≤σ*often∧σ*often<24∧(fA S (σ*often)).length≤(lim (bX S)).1)→qX S=[]):=by
 have key: ∀n∈qX S,rest=0∧σ*often=n:=fun n m=>by
  have f:=hf n m
  have k0:k≠0:=fun z=>absurd (ti h.one (n:=n)) (by rw[←f.2,z];decide)
  have e2:σ*(b:Int)=(σ*n)*k:=by rw[f.1,db]
  refine⟨by rw[hr,e2];exact Int.mul_fmod_left ..,?_⟩
  rw[ho,e2,Int.mul_fdiv_cancel _ k0,←db,show σ*σ=1 from hs.elim (congrArg fun x:Int=>x*x) (congrArg fun x:Int=>x*x),cw]
 refine⟨fun o=> ?_,fun w=>List.eq_nil_iff_forall_not_mem.mpr fun n m=> ?_⟩
 ·refine(cW o.2.1).elim fun t ht=> ?_
  rw[ht]at o ⊢
  have mt:t∈qX S:=nc.mpr ⟨bR.mp o.2.2.1,o.2.2.2⟩
  exact⟨qY List.nodup_range (cf.mp mt).1 (cf.mp mt).2 fun n mn q=>Int.ofNat.inj ((key n (cf.mpr ⟨mn,q⟩)).2.symm.trans ht),(hf t mt).2⟩
 ·have q:=key n m
  have f:=nc.mp m
  exact w ⟨q.1,q.2▸aK n,q.2▸bR.mpr f.1,q.2▸f.2⟩
noncomputable def iV(S:Sh):List Nat:=S.map fun p=>p.1/fU p.1 p.2
theorem DS{one X:Nat}{v:Int}(h1:1≤one)(e:(one:Int)∣(X:Int)-v):one/fU one v=Nat.gcd one X:=by
 have L:=jx h1 v
 have g0:0<Nat.gcd one X:=Nat.gcd_pos_of_pos_left _ h1
 have to: ∀j:Int,(one:Int)∣j*X-j*v:=fun j=>Int.mul_sub j X v▸dJ e (Int.dvd_mul_left j _)
 refine(Nat.gcd_dvd_left one X).elim fun m hm=>(Nat.gcd_dvd_right one X).elim fun x hx=> ?_
 have cop:Nat.Coprime m x:=Nat.eq_of_mul_eq_mul_left g0 (by rw[←Nat.gcd_mul_left,←hm,←hx,Nat.mul_one])
 have d1:fU one v∣m:=Int.natCast_dvd_natCast.mp (L.least m (by
  have:one∣m*X:=⟨x,by rw (occs:= .pos [1]) [hx];rw[Nat.mul_left_comm,←Nat.mul_assoc,←hm]⟩
  have:=Int.dvd_sub (ci m X▸Int.natCast_dvd_natCast.mpr this) (to m)
  rwa [Int.sub_sub_self]at this))
 have d2:m∣fU one v:=by
  have:(one:Int)∣(fU one v:Nat)*(X:Int):=Int.sub_add_cancel ((fU one v:Nat)*(X:Int)) _▸Int.dvd_add (to (fU one v:Nat)) L.dvd
  have:Nat.gcd one X*m∣Nat.gcd one X*(fU one v*x):=by
   rw[←hm,Nat.mul_left_comm,←hx]
   exact Int.natCast_dvd_natCast.mp (ci .. ▸this)
  exact cop.dvd_of_dvd_mul_right (Nat.dvd_of_mul_dvd_mul_left g0 this)
 rw[Nat.dvd_antisymm d1 d2]
 exact Nat.div_eq_of_eq_mul_left (dB fun z=>cx h1 (hm.trans (by rw[z,Nat.mul_zero]))) hm
theorem tH{S:Sh}(h1: ∀p∈S,1≤p.1)(hc:lE (bX S)=true){X:Nat}(e: ∀p∈S,(p.1:Int)∣(X:Int)-p.2):bx (iV S)=Nat.gcd (bx (bX S)) X:=by
 induction S with
 |nil=>exact(Nat.gcd_one_left X).symm
 |cons p S ih=>
  have q:=aM.mp (show(aS (Nat.gcd p.1 (bx (bX S))) 1&&lE (bX S))=true from hc)
  have c:Nat.Coprime p.1 (bx (bX S)):=aV q.1
  show p.1/fU p.1 p.2*bx (iV S)=Nat.gcd (p.1*bx (bX S)) X
  rw[ih (fun x m=>h1 x (.tail _ m)) q.2 fun x m=>e x (.tail _ m),DS (h1 p (.head _)) (e p (.head _)),Nat.gcd_comm _ X,Nat.gcd_comm _ X,Nat.gcd_comm _ X]
  exact(Nat.Coprime.gcd_mul X c).symm
theorem uh{S:Sh}(h:ki S){X:Nat}(R:L4 S X):(∀x∈ui (bx (bX S)) X,((bx (bX S):Nat):Int)∣x.2*X-x.1)∧
  ∃pre k1 k2,ui (bx (bX S)) X=pre++[(bx (iV S),k1),(0,k2)]∧k2.natAbs*bx (iV S)=bx (bX S):=by
 have T:=pd.start (bx (bX S)) X
 refine⟨fun x m=>(aX.mp m).elim (fun e=> ?_) fun m=>(aX.mp m).elim (fun e=> ?_) fun m=> ?_,?_⟩
 ·rw[e]
  exact⟨-1,by rw[Int.zero_mul,Int.zero_sub,Int.mul_neg,Int.mul_one]⟩
 ·rw[e]
  exact⟨0,by rw[cw,Int.sub_self,Int.mul_zero]⟩
 ·refine EH (P:=fun b k=>((bx (bX S):Nat):Int)∣k*X-b) 38 T (fun{a b k' k} T M=> ?_) x m
  cases T with |mk e c d he hc hd hk hk' det u v ra rb=>
  exact⟨-u,by rw[Int.mul_neg,←rb,Int.neg_sub]⟩
 ·rw[tH h.one h.co R.eq]
  exact(BE 38 T (AE R.lt h.few)).elim fun pre i=>i.elim fun g i=>i.elim fun k1 i=>i.elim fun k2 i=>i.2.1▸⟨pre,k1,k2,i.1,Int.ofNat.inj i.2.2⟩
theorem FS(x s:Nat):Builtin.bitXor (x:Int) ((x/2^s*2^s:Nat):Int)=((x%2^s:Nat):Int):=by
 have t: ∀i,(x/2^s*2^s).testBit i=(decide (s≤i)&&x.testBit i):=fun i=>by
  rw[←Nat.shiftLeft_eq,←Nat.shiftRight_eq_div_pow,Nat.testBit_shiftLeft]
  by_cases h:s≤i
  ·rw[Nat.testBit_shiftRight,Nat.add_sub_cancel' h]
  ·rw[decide_eq_false h];rfl
 have a:x &&& (x/2^s*2^s)=x/2^s*2^s:=Nat.eq_of_testBit_eq fun i=>by
  rw[Nat.testBit_and,t]
  cases x.testBit i<;>cases decide (s≤i)<;>rfl
 have o:x ||| (x/2^s*2^s)=x:=Nat.eq_of_testBit_eq fun i=>by
  rw[Nat.testBit_or,t]
  cases x.testBit i<;>cases decide (s≤i)<;>rfl
 have n: ∀y:Nat,bg (bg (y:Int))=(y:Int):=fun y=>by unfold bg;lia
 have g: ∀y:Nat,decide ((0:Int)≤bg (y:Int))=false:=fun y=>decide_eq_false (by unfold bg;lia)
 have b1: ∀y z:Nat,Builtin.bitAnd (y:Int) (z:Int)=((y &&& z:Nat):Int):=fun y z=>rfl
 have b2: ∀y z:Nat,Builtin.bitOr (y:Int) (z:Int)=((y ||| z:Nat):Int):=fun y z=>by
  unfold Builtin.bitOr Builtin.bitAnd
  rw[g,g]
  rw[n,n,n]
  rfl
 unfold Builtin.bitXor
 rw[b1,b2,a,o]
 have:=Nat.div_add_mod x (2^s)
 rw[Nat.mul_comm]at this
 omega
theorem vm{x:Int}{k:Nat}(h:x.natAbs<2^k):aZ x≤k:=by
 unfold aZ
 split
 ·exact a9 k
 ·next z=>
  have:x.natAbs≠0:=fun e=>z (beq_iff_eq.mpr (Int.natAbs_eq_zero.mp e))
  exact(Nat.log2_lt this).mpr h
noncomputable def val(n:Nat)(l:List Nat):Nat:=ej 0 (fun d M r=>d+r*2^n) l
noncomputable def kq(l:List Nat):List Int:=l.map fun(d:Nat)=>(d:Int)
theorem tR(n:Nat)(a b:List Nat):val n (a++b)=val n a+val n b*2^(a.length*n):=by
 induction a with
 |nil=>show val n b=0+val n b*2^(0*n);rw[Nat.zero_mul,Nat.pow_zero,Nat.mul_one,cF]
 |cons d a ih=>
  show d+val n (a++b)*2^n=d+val n a*2^n+val n b*2^((a.length+1)*n)
  rw[ih,Nat.add_mul,Nat.mul_assoc,←Nat.pow_add,←Nat.succ_mul,da]
theorem DI(L m:Nat):fO (L:Int) ((L+m:Nat):Int)=((L+m/2:Nat):Int):=by
 show((L:Int)+((L+m:Nat):Int)).fdiv 2=_
 rw[Int.fdiv_eq_ediv_of_nonneg _ (by decide),←dz,←da,←Nat.two_mul]
 exact congrArg Int.ofNat (Nat.mul_add_div (by decide) L m)
theorem Dm(h n:Nat):lU (((h:Nat):Int)*(n:Int))=2^(h*n):=congrArg (fun e:Nat=>(2:Int)^e) (by rw[←ci,Int.toNat_natCast]:(((h:Nat):Int)*(n:Int)).toNat=h*n)
theorem IX{h n:Nat}(h1:h≤30)(h2:n≤25):((h:Int)*(n:Int))≤1000∧0≤((h:Int)*(n:Int)):=by
 rw[←ci]
 exact⟨bN.mpr (ad (Nat.mul_le_mul h1 h2) (by decide)),aK _⟩
theorem Hg{m K:Nat}(h:m≤2*K):m-m/2≤K:=by omega
structure PN(m h k K:Nat):Prop where
 e:m/2=h
 s:m=h+k
 h1:1≤h
 k1:1≤k
 hK:h≤2^K
 kK:k≤2^K
theorem Ap{m K:Nat}(q:m≠1)(h1:1≤m)(h2:m≤2^(K+1)): ∃h k,PN m h k K:=by
 rw[Nat.pow_succ,Nat.mul_comm]at h2
 exact⟨m/2,m-m/2,rfl,(Nat.add_sub_of_le (Nat.div_le_self m 2)).symm,Nat.div_pos (Nat.lt_of_le_of_ne h1 (Ne.symm q)) (by decide),Nat.sub_pos_of_lt (Nat.div_lt_self h1 (by decide)),Nat.div_le_of_le_mul h2,Hg h2⟩
theorem P6{L h k:Nat}(h1:1≤h)(k1:1≤k):((L:Int)+1==((L+(h+k):Nat):Int))=false:=beq_eq_false_iff_ne.mpr fun e=>cR (Nat.add_lt_add_left (bV h1 k1) L) (Int.ofNat.inj e)
theorem lB{L h:Nat}:((L+h:Nat):Int)-(L:Int)=(h:Int):=by rw[dz,Int.add_comm];exact Int.add_sub_cancel _ _
theorem tT(k:Nat):(2:Int)^k=((2^k:Nat):Int):=(Int.natCast_pow 2 k).symm
theorem Ha{n:Int}{k:Nat}{x y:Int}{pre post:List Int}:FM n (k+1) x pre.length ((pre.length+1:Nat):Int) (pre++([y]++post))=some (pre++([x]++post)):=by
 show cond ((pre.length:Int)+1==((pre.length+1:Nat):Int)) (cond (Kt pre.length) (cond (decide ((pre.length:Int)<(pre++([y]++post)).length)) (some ((pre++([y]++post)).set ((pre.length:Int)).toNat x)) none) none) _=_
 rw[show((pre.length:Int)+1==((pre.length+1:Nat):Int))=true from beq_iff_eq.mpr rfl,show Kt (pre.length:Int)=true from decide_eq_true (aK _),decide_eq_true (bR.mpr (by rw[ak,ak];exact dF (aA Nat.zero_lt_one (aG 1 _))):(pre.length:Int)<(pre++([y]++post)).length),Int.toNat_natCast,List.set_append_right _ _ (av _),Nat.sub_self]
 rfl
theorem g6{x:Nat}(h:x<2^60):kO (x:Int)=true:=a8 (aA h (by decide))
theorem KI{n:Nat}(hn:n≤25): ∀(k m x:Nat) (pre mid post:List Int),mid.length=m→1≤m→m≤2^k→m≤30→x<2^30→
  ∃ds,ds.length=m∧val n ds=x∧FM n (k+1) x pre.length ((pre.length+m:Nat):Int) (pre++(mid++post))=some (pre++(kq ds++post)):=by
 intro k
 have one: ∀{k m x:Nat} {pre mid post:List Int},mid.length=m→m=1→∃ds,ds.length=m∧val n ds=x∧FM n (k+1) x pre.length ((pre.length+m:Nat):Int) (pre++(mid++post))=some (pre++(kq ds++post)):=fun{k m x pre mid post} e q=>by
  subst q
  obtain⟨y,rfl⟩:=List.length_eq_one_iff.mp e
  exact⟨[x],rfl,by show x+0*2^n=x;rw[Nat.zero_mul];rfl,Ha⟩
 induction k with
 |zero=>exact fun m x pre mid post e h1 h2 M M=>one e (cK h2 h1)
 |succ k ih=>
  intro m x pre mid post e h1 h2 h3 hx
  by_cases q:m=1
  ·exact one e q
  ·obtain⟨h,j,hh,rfl,h1',j1,hK,jK⟩:=Ap q h1 h2
   have h20:=ad (aG h j) h3
   have hk:=IX h20 hn
   refine(ih h (x%2^(h*n)) pre (mid.take h) (mid.drop h++post) (by rw[List.length_take,e];exact Nat.min_eq_left (aG h j)) h1' hK h20 (aj (Nat.mod_le _ _) hx)).elim fun d1 zz=>zz.elim fun l1 zz=>zz.elim fun v1 r1=> ?_
   refine(ih j (x/2^(h*n)) (pre++kq d1) (mid.drop h) post (by rw[List.length_drop,e];exact Nat.add_sub_cancel_left h j) j1 jK (ad (c9 j h) h3) (aj (Nat.div_le_self _ _) hx)).elim fun d2 zz=>zz.elim fun l2 zz=>zz.elim fun v2 r2=> ?_
   have em:fO (pre.length:Int) ((pre.length+(h+j):Nat):Int)=((pre.length+h:Nat):Int):=by rw[DI,hh]
   have ex:(x:Int).fdiv (2^(h*n))=((x/2^(h*n):Nat):Int):=by
    rw[Int.fdiv_eq_ediv_of_nonneg _ (Int.pow_nonneg (by decide))]
    rfl
   have ib:M8 n x pre.length ((pre.length+(h+j):Nat):Int)=true:=by
    unfold M8
    rw[em,lB,Dm,ex,g6 (aj h20 (by decide)),g6 (aj hn (by decide)),g6 (aj (Nat.div_le_self _ _) (aA hx (by decide))),decide_eq_true hk.1]
    exact decide_eq_true hk.2
   refine⟨d1++d2,by rw[ak,l1,l2],by rw[tR,v1,v2,l1];exact Nat.mod_add_div' x _,?_⟩
   show cond ((pre.length:Int)+1==((pre.length+(h+j):Nat):Int)) _ (cond (M8 n x pre.length ((pre.length+(h+j):Nat):Int)) ((FM n (k+1) (Builtin.bitXor x ((x:Int).fdiv (lU ((fO pre.length ((pre.length+(h+j):Nat):Int)-pre.length)*n))*lU ((fO pre.length ((pre.length+(h+j):Nat):Int)-pre.length)*n))) pre.length (fO pre.length ((pre.length+(h+j):Nat):Int)) (pre++(mid++post))).bind fun l=>FM n (k+1) ((x:Int).fdiv (lU ((fO pre.length ((pre.length+(h+j):Nat):Int)-pre.length)*n))) (fO pre.length ((pre.length+(h+j):Nat):Int)) ((pre.length+(h+j):Nat):Int) l) none)=_
   rw[P6 h1' j1,ib,em,lB,Dm,ex,tT,←ci,FS]
   rw[←aQ (List.take h mid),List.take_append_drop]at r1
   rw[ak,show(kq d1).length=h from(aE ..).trans l1,da,aQ]at r2
   show Option.bind (FM n (k+1) ((x%2^(h*n):Nat):Int) pre.length ((pre.length+h:Nat):Int) (pre++(mid++post))) _=_
   rw[r1]
   refine r2.trans ?_
   unfold kq
   rw[List.map_append,aQ,aQ]
theorem CA{n k:Nat}{l:List Nat}:val n (l.drop k)≤val n l:=by
 have e:=tR n (l.take k) (l.drop k)
 rw[List.take_append_drop]at e
 rw[e]
 exact ad (cy _ (Nat.two_pow_pos _)) (c9 _ _)
theorem Jr{n d:Nat}: ∀{l:List Nat},d∈l→d≤val n l
 |c::l,m=>by
  cases m with
  |head=>exact aG _ _
  |tail _ m=>exact ad (Jr m) (ad (cy _ (Nat.two_pow_pos n)) (c9 _ _))
theorem D8{n:Int}{k:Nat}{y:Int}{pre post:List Int}:uG n (pre++([y]++post)) (k+1) pre.length ((pre.length+1:Nat):Int)=some y:=by
 have pl:eQ (pre++([y]++post)).length (pre.length:Int)=some pre.length:=nT (by rw[ak,ak];exact dF (aA Nat.zero_lt_one (aG 1 _)))
 show cond ((pre.length:Int)+1==((pre.length+1:Nat):Int)) (cond (eQ (pre++([y]++post)).length (pre.length:Int)).isSome (some (H8 (pre++([y]++post)) pre.length)) none) _=_
 rw[show((pre.length:Int)+1==((pre.length+1:Nat):Int))=true from beq_iff_eq.mpr rfl]
 unfold H8 getD
 rw[pl]
 show some ((pre++([y]++post))[pre.length]?.getD 0)=some y
 rw[bA (av _),Nat.sub_self]
 rfl
theorem Hb{n:Nat}(hn:n≤25): ∀(k m:Nat) (pre post:List Int) (mid:List Nat),mid.length=m→1≤m→m≤2^k→m≤30→val n mid<2^60→uG n (pre++(kq mid++post)) (k+1) pre.length ((pre.length+m:Nat):Int)=some ((val n mid:Nat):Int):=by
 intro k
 have one: ∀{k m:Nat} {pre post:List Int} {mid:List Nat},mid.length=m→m=1→uG n (pre++(kq mid++post)) (k+1) pre.length ((pre.length+m:Nat):Int)=some ((val n mid:Nat):Int):=fun{k m pre post mid} e q=>by
  subst q
  obtain⟨y,rfl⟩:=List.length_eq_one_iff.mp e
  rw[show val n [y]=y from by show y+0*2^n=y;rw[Nat.zero_mul];rfl]
  exact D8
 induction k with
 |zero=>exact fun m pre post mid e h1 h2 M M=>one e (cK h2 h1)
 |succ k ih=>
  intro m pre post mid e h1 h2 h3 h5
  by_cases q:m=1
  ·exact one e q
  ·obtain⟨h,j,hh,rfl,h1',j1,hK,jK⟩:=Ap q h1 h2
   have h20:=ad (aG h j) h3
   have hk:=IX h20 hn
   have lt1:(mid.take h).length=h:=by rw[List.length_take,e];exact Nat.min_eq_left (aG h j)
   have v2:=aj (CA (n:=n) (k:=h) (l:=mid)) h5
   have va:=tR n (mid.take h) (mid.drop h)
   rw[List.take_append_drop,lt1]at va
   have ec:kq mid=kq (mid.take h)++kq (mid.drop h):=by unfold kq;rw[←List.map_append,List.take_append_drop]
   have r1:=ih h pre (kq (mid.drop h)++post) (mid.take h) lt1 h1' hK h20 (aj (ad (aG _ _) (aC va.symm)) h5)
   have r2:=ih j (pre++kq (mid.take h)) post (mid.drop h) (by rw[List.length_drop,e];exact Nat.add_sub_cancel_left h j) j1 jK (ad (c9 j h) h3) v2
   rw[←aQ (kq _),←ec]at r1
   rw[aQ,←aQ (kq _),←ec,ak,show(kq (mid.take h)).length=h from(aE ..).trans lt1,da]at r2
   have em:fO (pre.length:Int) ((pre.length+(h+j):Nat):Int)=((pre.length+h:Nat):Int):=by rw[DI,hh]
   have ib:D9 n pre.length ((pre.length+(h+j):Nat):Int)=true:=by
    unfold D9
    rw[em,lB,g6 (aj h20 (by decide)),g6 (aj hn (by decide)),decide_eq_true hk.1]
    show cond (decide (0≤(h:Int)*(n:Int))) true false=true
    rw[decide_eq_true hk.2]
    rfl
   show cond ((pre.length:Int)+1==((pre.length+(h+j):Nat):Int)) _ (cond (D9 n pre.length ((pre.length+(h+j):Nat):Int)) ((uG n (pre++(kq mid++post)) (k+1) (fO pre.length ((pre.length+(h+j):Nat):Int)) ((pre.length+(h+j):Nat):Int)).bind fun x=>cond (kO x) ((uG n (pre++(kq mid++post)) (k+1) pre.length (fO pre.length ((pre.length+(h+j):Nat):Int))).map fun y=>x*lU ((fO pre.length ((pre.length+(h+j):Nat):Int)-pre.length)*n)+y) none) none)=_
   rw[P6 h1' j1,ib,em,r2,r1,lB,Dm]
   show cond (kO ((val n (mid.drop h):Nat):Int)) (some (((val n (mid.drop h):Nat):Int)*2^(h*n)+((val n (mid.take h):Nat):Int))) none=_
   rw[g6 v2,va,tT,←ci,←dz,bK]
   rfl
theorem wo{σ α:Type}{f:σ→α→Bool}{g:σ→α→σ}{b:List α}: ∀{a:List α} {s:σ},gL f g (a++b) s=(gL f g a s).bind (gL f g b)
 |[],s=>rfl
 |x::a,s=>by
  show cond (f s x) (gL f g (a++b) (g s x)) none=(cond (f s x) (gL f g a (g s x)) none).bind _
  rw[wo]
  induction f s x using ah<;>rfl
theorem gO(a b:Nat):(a:Int).fdiv b=((a/b:Nat):Int):=by
 rw[Int.fdiv_eq_ediv_of_nonneg _ (aK b)]
 rfl
theorem im(a b:Nat):(a:Int).fmod b=((a%b:Nat):Int):=by
 rw[b7 _ (aK b)]
 rfl
theorem y9{p:Nat}(h:p≠0):((p:Int)==0)=false:=beq_eq_false_iff_ne.mpr fun e=>h (Int.ofNat.inj e)
theorem Kh{p:Nat}(h:p≠0):(!((p:Int)==0))=true:=congrArg not (y9 h)
theorem HF{a b:List Nat}:kq (a++b)=kq a++kq b:=List.map_append
theorem AH{b n:Nat}(b0:b≠0)(b1:b<2^25)(en:aZ b=n)(hn:n≤25): ∀l:List Nat,val n l<2^30→l.length≤30→∃(r:Nat) (qs:List Nat),gL (Li b) (HC b) (kq l).reverse (0,[])=some ((r:Int),kq qs)∧r<b∧val n qs.reverse*b+r=val n l∧qs.length=l.length
 |[],_,_=>⟨0,[],rfl,dB b0,Nat.zero_mul b,rfl⟩
 |d::l,h,hl=>by
  have hv:d+val n l*2^n<2^30:=h
  refine(AH b0 b1 en hn l (aj (ad (cy _ (Nat.two_pow_pos n)) (c9 _ d)) hv) (cS hl)).elim fun r zz=>zz.elim fun qs zz=>zz.elim fun h1 zz=>zz.elim fun r1 zz=>zz.elim fun v len=> ?_
  have hd:=aj (aG d _) hv
  have tl:r*2^n+d<2^60:=aj (bV (Nat.mul_le_mul (bJ (b8 r1 b1)) (Nat.pow_le_pow_right (by decide:0<2) hn)) (bJ hd)) (by decide:2^25*2^25+2^30<2^60)
  have et:FP b (r,kq qs) d=((r*2^n+d:Nat):Int):=by
   unfold FP lU
   rw[en,Int.toNat_natCast,tT,←ci,←dz]
  have es:HC b (r,kq qs) d=((((r*2^n+d)%b:Nat):Int),kq (qs++[(r*2^n+d)/b])):=by
   unfold HC
   rw[et,gO,im,HF]
   rfl
  have eb:Li b (r,kq qs) d=true:=by
   unfold Li Pk
   rw[et,g6 tl,g6 (b8 r1 (b8 b1 (by decide))),Kh b0,en,decide_eq_true (aW (Int.sub_le_self _ (aK n)) (bN.mpr (ad (vm (x:=((r*2^n+d:Nat):Int)) tl) (by decide:60≤4000))):(aZ ((r*2^n+d:Nat):Int):Int)-(n:Int)≤4000),show dZ (b:Int).natAbs (2^30)=true from a8 (aA b1 (by decide)),ak]
   exact a8 (ad (cM (ad (aC ((aE ..).trans len)) (cS hl))) (by decide))
  refine⟨(r*2^n+d)%b,qs++[(r*2^n+d)/b],?_,dM _ (dB b0),?_,by rw[ak,len];rfl⟩
  ·unfold kq
   rw[List.map_cons,List.reverse_cons,wo,show(l.map fun(d:Nat)=>(d:Int))=kq l from rfl,h1]
   show cond (Li b (r,kq qs) d) (some (HC b (r,kq qs) d)) none=_
   rw[eb,es]
   rfl
  ·rw[List.reverse_append]
   show((r*2^n+d)/b+val n qs.reverse*2^n)*b+(r*2^n+d)%b=d+val n l*2^n
   rw[←v,Nat.add_mul,Nat.add_mul,Nat.mul_right_comm,Nat.add_right_comm,bK _ ((r*2^n+d)%b),Nat.mod_add_div',bK (r*2^n),da,bK (r*2^n)]
noncomputable def sD(A n:Nat):Int:=((A:Int)+(n:Int)-1).fdiv n
noncomputable def Po(A n:Nat):Bool:=cond (!((n:Int)==0)) (cond (kO ((A:Int)+(n:Int)-1)) (cond (dZ ((n:Int)).natAbs (2^30)) (cond (kO (sD A n)) (cond (gj (1*(sD A n).toNat)) (cond (bz (sD A n).toNat 30) (aS A 0==aS (sD A n).toNat 0) false) false) false) false) false) false
theorem HP: ∀A<26,∀n<26,n≠0→Po A n=true:=by decide+kernel
theorem LD: ∀b<2^25,b≠0→aZ (b:Nat)≠0∧aZ (b:Nat)<26:=fun b b1 b0=>⟨by
 unfold aZ
 rw[if_neg (by rw[beq_iff_eq];exact fun e=>b0 (Int.ofNat.inj e))]
 exact Nat.succ_ne_zero _,Nat.lt_succ_of_le (vm (x:=(b:Int)) b1)⟩
theorem KN{a n:Nat}(a1:a<2^25)(n0:n≠0)(n5:n<26): ∃l,OD a n=some (kq l)∧l.length≤30∧val n l=a:=by
 refine(@id (∃A,aZ (a:Int)=A) (⟨_,rfl⟩)).elim fun A hA=> ?_
 refine(ct (HP A (Nat.lt_succ_of_le (hA▸vm a1)) n n5 n0)).elim fun c1 c=> ?_
 refine(ct c).elim fun c2 c=> ?_
 obtain⟨c3,c⟩:=ct c
 refine(ct c).elim fun c4 c=> ?_
 refine(ct c).elim fun c5 c=> ?_
 refine(ct c).elim fun c6 c7=> ?_
 have ec:zh a n=sD A n:=by unfold zh;rw[hA];rfl
 have zl:(kS a n).length=(sD A n).toNat:=by
  unfold kS
  rw[ec,List.length_flatten,List.map_replicate,List.sum_replicate_nat]
  exact Nat.mul_one _
 have le:=aq c6
 unfold OD
 rw[show He a n=true from by
  unfold He
  rw[ec,zl,hA,g6 (aA a1 (by decide)),c1,c2,c3,c4,c5]
  exact a8 (ad le (by decide))]
 by_cases q:a=0
 ·subst q
  obtain rfl:=(show 0=A from hA)
  exact⟨[],congrArg some (List.length_eq_zero_iff.mp (zl.trans (aV (eq_of_beq c7).symm))),a9 _,rfl⟩
 ·have ne:(sD A n).toNat≠0:=fun z=>by
   have w:=aV ((eq_of_beq c7).trans (by rw[z];rfl))
   rw[←hA]at w
   unfold aZ at w
   rw[if_neg (by rw[beq_iff_eq];exact fun e=>q (Int.ofNat.inj e))]at w
   injection w
  obtain⟨ds,l1,v,r⟩:=KI (n:=n) (bD n5) 7 (sD A n).toNat a [] (kS a n) [] zl (dB ne) (ad le (by decide)) le (aA a1 (by decide))
  rw[bk,bk,show([]:List Int).length+(sD A n).toNat=(sD A n).toNat from cF _]at r
  exact⟨ds,by rw[show((a:Int)!=0)=true from bne_iff_ne.mpr fun e=>q (Int.ofNat.inj e),zl];exact r,l1▸le,v⟩
theorem Lh{a b:Nat}(a1:a<2^25)(b0:b≠0)(b1:b<2^25):LZ a b=some (((a/b:Nat):Int),((a%b:Nat):Int)):=by
 refine(LD b b1 b0).elim fun n0 n5=> ?_
 refine(@id (∃n,aZ (b:Int)=n) (⟨_,rfl⟩)).elim fun n hn=> ?_
 rw[hn]at n0 n5
 obtain⟨l,h1,h3,rfl⟩:=KN a1 n0 n5
 refine(AH b0 b1 hn (bD n5) l (aA a1 (by decide)) h3).elim fun r zz=>zz.elim fun qs zz=>zz.elim fun g1 zz=>zz.elim fun r1 zz=>zz.elim fun v len=> ?_
 have ql:=ad (aC (List.length_reverse.trans len)) h3
 have e1:val n l/b=val n qs.reverse:=by rw[←v,bK,Nat.add_mul_div_right _ _ (dB b0),Nat.div_eq_of_lt r1,cF]
 have e2:val n l%b=r:=by rw[←v,bK,Nat.add_mul_mod_self_right,Nat.mod_eq_of_lt r1]
 have d2:OH n (kq qs).reverse=some ((val n qs.reverse:Nat):Int):=by
  have lt:=aj (ad (aC e1.symm) (Nat.div_le_self _ _)) a1
  rw[show(kq qs).reverse=kq qs.reverse from List.map_reverse.symm]
  revert ql lt
  generalize qs.reverse=z
  intro ql lt
  induction z using aO with
  |nil=>rfl
  |cons x y=>
   have w:=Hb (n:=n) (bD n5) 7 (x::y).length [] [] (x::y) rfl (cM (a9 _)) (ad ql (by decide)) ql (aA lt (by decide))
   rw[bk,show([]:List Int).length+(x::y).length=(x::y).length from cF _,←show(kq (x::y)).length=(x::y).length from aE ..]at w
   exact w
 unfold LZ
 rw[hn,g6 (aA b1 (by decide)),show bz n 1000=true from a8 (ad (bJ n5) (by decide)),h1]
 show Option.bind (gL (Li b) (HC b) (kq l).reverse (0,[])) _=_
 rw[g1]
 show Option.map _ (OH n (kq qs).reverse)=_
 rw[d2,e1,e2]
 rfl
theorem Ee{a b k:Nat}(a1:a<2^25)(b0:b≠0)(b1:b<2^25):uH a b (k+1)=some (((a/b:Nat):Int),((a%b:Nat):Int)):=by
 show cond ((b:Int)==0) none (cond (decide ((b:Int)<0)) _ (cond (decide ((a:Int)<0)) _ (LZ a b)))=_
 rw[y9 b0,decide_eq_false (dh.mpr (aK b)),decide_eq_false (dh.mpr (aK a))]
 exact Lh a1 b0 b1
theorem Fi(x:Nat):bg (Int.negSucc x)=(x:Int):=by unfold bg;rw[Int.neg_negSucc];exact Int.add_sub_cancel (x:Int) 1
theorem GO{y q r:Int}:bg q*y+(y+bg r)=bg (q*y+r):=by
 unfold bg
 rw[Int.sub_mul,Int.neg_mul,cw]
 lia
theorem NI{a b q r:Int}(h0:0≤r)(h1:r<b)(e:q*b+r=a):a.fdiv b=q∧a.fmod b=r:=by
 have b0:0<b:=dC h0 h1
 rw[←e,Int.add_comm,Int.fdiv_eq_ediv_of_nonneg _ (cn b0),b7 _ (cn b0),Int.add_mul_ediv_right _ _ (dg b0),Int.add_mul_emod_self_right,Int.ediv_eq_zero_of_lt h0 h1,Int.emod_eq_of_lt h0 h1,Int.zero_add]
 exact⟨rfl,rfl⟩
theorem IW{a:Int}{b k:Nat}(a1:a.natAbs<2^25)(b0:b≠0)(b1:b<2^25):uH a b (k+2)=some (a.fdiv b,a.fmod b):=by
 induction a using Int.casesOn with
 |ofNat x=>rw[show(Int.ofNat x).fdiv b=_ from gO x b,show(Int.ofNat x).fmod b=_ from im x b];exact Ee a1 b0 b1
 |negSucc x=>
  have m:=dM x (dB b0)
  obtain⟨e1,e2⟩:=NI (a:=Int.negSucc x) (b:=b) (q:=bg ((x/b:Nat):Int)) (r:=(b:Int)+bg ((x%b:Nat):Int)) (by unfold bg;lia) (by unfold bg;lia) (by
   rw[GO,←ci,←dz,Nat.div_add_mod']
   exact(congrArg bg (Fi x)).symm.trans (by unfold bg;lia))
  show cond ((b:Int)==0) none (cond (decide ((b:Int)<0)) _ (cond (decide (Int.negSucc x<0)) ((uH (bg (Int.negSucc x)) b (k+1)).map fun v=>(bg v.1,(b:Int)+bg v.2)) _))=_
  rw[y9 b0,decide_eq_false (dh.mpr (aK b)),decide_eq_true (Int.negSucc_lt_zero x),Fi,Ee (Nat.lt_of_succ_lt a1) b0 b1,e1,e2]
  rfl
structure Ou(a b:Int):Prop where
 e:uH a b 3=some (a.fdiv b,a.fmod b)
 q:kO (a.fdiv b)=true
 b:kO b=true
theorem AI{a b:Int}(a1:a.natAbs<2^25)(b0:b≠0)(b1:b.natAbs<2^25):Ou a b:=by
 refine⟨?_,a8 (aj (Int.natAbs_fdiv_le_natAbs a b) (b8 a1 (by decide))),a8 (b8 b1 (by decide))⟩
 induction b using Int.casesOn with
 |ofNat y=>exact IW (k:=1) a1 (fun e=>b0 (congrArg Int.ofNat e)) b1
 |negSucc y=>
  show cond (Int.negSucc y==0) none (cond (decide (Int.negSucc y<0)) ((uH (-a) ((y+1:Nat):Int) 2).map fun v=>(v.1,-v.2)) _)=_
  rw[show(Int.negSucc y==0)=false from rfl,decide_eq_true (Int.negSucc_lt_zero y),IW (k:=0) (by rw[Int.natAbs_neg];exact a1) (Nat.succ_ne_zero y) b1]
  show some ((-a).fdiv (-Int.negSucc y),-((-a).fmod (-Int.negSucc y)))=_
  rw[Int.neg_fdiv_neg,Int.fmod_def (-a),Int.fmod_def a,Int.neg_fdiv_neg,Int.neg_mul]
  exact congrArg (fun z=>some (a.fdiv (Int.negSucc y),z)) (by lia)
theorem nX{α β:Type}{f g:α→β}{l:List α}(h:l.map f=l.map g){x:α}(m:x∈l):f x=g x:=List.map_inj_left.mp h x m
theorem ux{x:Int}{n:Nat}(h0:0≤x)(h1:x<n):x∈Na n:=by
 unfold Na
 rw[ta]
 exact aP.mpr ⟨x.toNat,cI.mpr ((Int.toNat_lt h0).mpr h1),(Int.zero_add _).trans (Int.toNat_of_nonneg h0)⟩
theorem NF{α β:Type}{f:α→List β}(h: ∀x,(f x).length≤1)(l:List α):(l.flatMap f).length≤l.length:=by
 induction l with
 |nil=>exact av _
 |cons x l ih=>show(f x++l.flatMap f).length≤_;rw[ak,b4,bK];exact bV ih (h x)
theorem By{a c:Int}: ∀{n:Nat} {x:Int},x∈eR a c n→∃i:Nat,i<n∧x=a+c*i:=by
 intro n
 induction n generalizing a with
 |zero=>exact fun m=>nomatch m
 |succ n ih=>
  intro x m
  cases m with
  |head=>exact⟨0,Nat.succ_pos n,by rw[show((0:Nat):Int)=0 from rfl,Int.mul_zero,Int.add_zero]⟩
  |tail _ m=>
   obtain⟨i,h,e⟩:=ih m
   exact⟨i+1,Nat.succ_lt_succ h,by rw[e,show((i+1:Nat):Int)=i+1 from rfl,Int.mul_add,Int.mul_one,Int.add_assoc,Int.add_comm c]⟩
theorem MS{ns:List Int}:0≤LS ns∧LS ns≤ns.length∧LS ns≤60:=by
 show 0≤cond (decide ((60:Int)<ns.length)) 60 (ns.length:Int)∧cond (decide ((60:Int)<ns.length)) 60 (ns.length:Int)≤ns.length∧cond (decide ((60:Int)<ns.length)) 60 (ns.length:Int)≤60
 induction q:decide ((60:Int)<ns.length)using ah with
 |true=>have:=of_decide_eq_true q;exact⟨(by decide:(0:Int)≤60),cn this,Int.le_refl _⟩
 |false=>have:=of_decide_eq_false q;exact⟨aK _,Int.le_refl _,dh.mp this⟩
noncomputable def MG(k:Int×Int):Bool:=cond (Kt (bZ k.1 k.2 10)) (cond (decide (bZ k.1 k.2 10≤6)) (cond (aY k.1 k.2 10) ((cX (bZ k.1 k.2 10).toNat).all fun i=>decide (k.1+10*(i:Int)<k.2)) false) false) false
noncomputable def Js:List (Int×Int):=qc.flatMap fun j=>(Na 61).map fun e=>(j,e)
theorem Mo{j:Nat}{e:Int}(hj:j<10)(h:0≤e∧e≤60):(0≤bZ j e 10∧bZ j e 10≤6∧∀i:Nat,(i:Int)<bZ j e 10→(j:Int)+10*i<e)∧aY j e 10=true:=by
 have m:((j:Int),e)∈Js:=ce.mpr ⟨j,ux (n:=10) (aK j) (bR.mpr hj),aP.mpr ⟨e,ux (n:=61) h.1 (Int.lt_add_one_of_le h.2),rfl⟩⟩
 have z:=nX (f:=MG) (g:=fun M=>true) (by kernel_rfl:Js.map MG=Js.map fun M=>true) m
 obtain⟨h1,z⟩:=ct z
 obtain⟨h2,z⟩:=ct z
 obtain⟨h3,z⟩:=ct z
 exact⟨⟨of_decide_eq_true h1,of_decide_eq_true h2,fun i k=>of_decide_eq_true (ay.mp z i (cI.mpr (Int.lt_toNat.mpr k)))⟩,h3⟩
theorem PS{x:Int}{n:Nat}(h0:0≤x)(h:x<n):x.natAbs<n:=by
 obtain⟨x,rfl⟩:=cW h0
 exact bR.mp h
theorem JH{l:List Int}(h: ∀x∈l,0≤x∧x≤5040):0≤l.sum∧l.sum≤5040*l.length:=by
 induction l with
 |nil=>exact⟨Int.le_refl _,Int.le_refl _⟩
 |cons x l ih=>
  have a:=h x (.head _)
  have b:=ih fun y m=>h y (.tail _ m)
  rw[List.sum_cons,b4,Int.natCast_succ,Int.mul_add,Int.add_comm x]
  exact⟨Int.add_nonneg b.1 a.1,Int.add_le_add b.2 a.2⟩
theorem EZ{ns:List Int}{k:Int}: ∀x∈zg ns k,0≤x∧x≤5040:=fun x m=>by
 obtain⟨j,_,h⟩:=ce.mp m
 rw[az.mp h]
 exact⟨Int.fmod_nonneg_of_pos _ (by decide),cn (Int.fmod_lt_of_pos _ (by decide))⟩
theorem zf{ns:List Int}{j:Nat}(hj:j<10):xN ns j∧∃k:Nat,xx ns j=k∧k<2^15:=by
 have b60:=MS (ns:=ns)
 have z':=Mo (j:=j) hj ⟨b60.1,b60.2.2⟩
 have z:=z'.1
 have l15:(B5 ns (j:Int)).length≤6:=by
  unfold B5 fk
  rw[l6]
  exact Int.toNat_le.mpr z.2.1
 have s15:(zg ns (j:Int)).length≤6:=ad (NF (fun M=>av _) _) l15
 have bd:=JH (EZ (ns:=ns) (k:=(j:Int)))
 have bs:0≤getD xE (j:Int) 0∧getD xE (j:Int) 0≤1496:=by
  have z: ∀j<10,0≤getD xE ((j:Nat):Int) 0∧getD xE ((j:Nat):Int) 0≤1496:=by decide+kernel
  exact z j hj
 refine⟨⟨?_,?_,z'.2,ad l15 (by decide),fun x m=> ?_,ad s15 (by decide),fun i m=> ?_⟩,?_⟩
 ·exact mz (ad (bJ hj) (by decide))
 ·exact PS b60.1 (dC b60.2.2 (by decide))
 ·obtain⟨i,hi,rfl⟩:=By m
  have w:=z.2.2 i (Int.lt_toNat.mp hi)
  have q:(j:Int)+10*(i:Int)=((j+10*i:Nat):Int):=by lia
  rw[q]at w ⊢
  exact iS (bR.mp (Int.lt_of_lt_of_le w b60.2.1))
 ·have k:=EZ i m
  exact PS k.1 (dC k.2 (by decide))
 ·have h0:0≤xx ns j:=Int.add_nonneg bs.1 bd.1
  obtain⟨k,e⟩:=cW h0
  have h1:xx ns j<2^15:=dC (Int.add_le_add bs.2 (aW bd.2 (Int.mul_le_mul_of_nonneg_left (bN.mpr s15) (by decide)))) (by decide)
  exact⟨k,e,bR.mp (e▸h1)⟩
noncomputable def bw:List Int:=(cX 108).map fun i:Nat=>Int.ofNat i-34
noncomputable def Di:List (Bool×List Nat):=xc.map (true,·)++Fk.map (false,·)
noncomputable def uu:List (Int×Nat):=(cX 14).map fun i=>(getD zU ((i%7:Nat):Int) 0,getD Fv (i:Int) 0)
structure fu(r:den RW):Prop where
 p: ∃q∈uu,r.1=q.1∧r.2.1=[q.2]
 w: ∃v∈bw,∃m∈Di,r.2.2.2.1=v∧r.2.2.1=iR v++m.2∧r.2.2.2.2.1=m.1
 m: ∃k:Nat,r.2.2.2.2.2=(k:Int)∧k<2^12
theorem Em{α:Type}{l:List α}{n:Nat}{d:α}(h:n<l.length):getD l (n:Int) d=l[n]:=by
 unfold getD
 rw[nT h]
 show(l[n]?).getD d=_
 rw[aR h]
 rfl
theorem qS{α:Type}{l:List α}{n:Nat}{d:α}(h:n<l.length):getD l (n:Int) d∈l:=by
 rw[Em h];exact List.getElem_mem h
theorem FY{v:Int}(h1: -34≤v)(h2:v≤73):v∈bw:=by
 refine(cW (Int.add_le_add_right h1 34: -34+34≤v+34)).elim fun k e=>aP.mpr ⟨k,cI.mpr (Nat.lt_succ_of_le (bN.mp (e▸Int.add_le_add_right h2 34:(k:Int)≤(107:Nat)))),by show(k:Int)-34=v;rw[←e];exact Int.add_sub_cancel v 34⟩
theorem Iv: ∀p<7,∀d<5,-34≤getD zU ((p:Nat):Int) 0*(((d:Nat):Int)-2)∧getD zU ((p:Nat):Int) 0*(((d:Nat):Int)-2)≤34∧5≤getD zU ((p:Nat):Int) 0∧getD zU ((p:Nat):Int) 0≤17:=by decide+kernel
theorem Ml: ∀p<7,∀u<2,(getD zU ((p:Nat):Int) 0,getD Fv (((p+7*u:Nat):Nat):Int) 0)∈uu:=by decide+kernel
theorem KJ: ∀v∈bw,∀m∈Di,(iR v++m.2).length≤bS:=by
 have key:(bw.all fun v=>Di.all fun m=>bz (iR v++m.2).length 100)=true:=by kernel_rfl
 exact fun v hv m hm=>ad (aq (ay.mp (ay.mp key v hv) m hm)) (by decide)
structure xO(c:List Int)(a j q:Nat):Prop where
 l:c.length=10
 j9:j<9
 a0:xP c 0=(a:Int)
 al:a<2^15
 q0:xP c ((j:Int)+1)=(q:Int)
 ql:q<2^15
structure Ol(c:List Int)(a j q:Nat)(p d u:Nat):Prop where
 p7:p<7
 d5:d<5
 u2:u<2
 ep:Ab c j=(p:Int)
 em:lN c j=((q/8:Nat):Int)
 ed:(lN c j).fmod 5=(d:Int)
 eu:((lN c j).fdiv 2).fmod 2=(u:Int)
theorem IC{c:List Int}{a j q:Nat}(h:xO c a j q): ∃p d u,Ol c a j q p d u:=by
 have em:lN c j=((q/8:Nat):Int):=by unfold lN;rw[h.q0];exact gO q 8
 refine⟨(a/24+(a/168%6+1)*j)%7,q/8%5,q/8/2%2,dM _ (by decide),dM _ (by decide),dM _ (by decide),?_,em,by rw[em];exact im _ 5,?_⟩
 ·unfold Ab
  rw[h.a0,show((a:Nat):Int).fdiv 24=_ from gO a 24,show((a:Nat):Int).fdiv 168=_ from gO a 168,show(((a/168:Nat):Int)).fmod 6=_ from im _ 6]
  exact im (a/24+(a/168%6+1)*j) 7
 ·rw[em,show(((q/8:Nat):Int)).fdiv 2=_ from gO _ 2]
  exact im _ 2
theorem CB{c:List Int}{a j q p d u:Nat}(h:xO c a j q)(r:Ol c a j q p d u): -34≤mo c j∧mo c j≤73:=by
 have b:=Iv p r.p7 d r.d5
 have es:sO c j=getD zU (p:Int) 0:=by unfold sO;rw[r.ep]
 have ea:(xP c 0).fmod 24=((a%24:Nat):Int):=by rw[h.a0];exact im a 24
 have a24:a%24<24:=dM _ (by decide)
 have e0:Bb c j=((a%24:Nat):Int)+getD zU (p:Int) 0*((d:Int)-2):=by unfold Bb;rw[ea,es,r.ed]
 unfold mo
 rw[e0,es]
 generalize getD zU (p:Int) 0*((d:Int)-2)=t at b ⊢
 generalize getD zU (p:Int) 0=s at b ⊢
 have s1:0<s-1:=Int.sub_pos_of_lt (Int.lt_of_lt_of_le (by decide) b.2.2.1)
 have f0:0≤((lN c j).fdiv 5).fmod (s-1):=Int.fmod_nonneg_of_pos _ s1
 have f1:((lN c j).fdiv 5).fmod (s-1)<s-1:=Int.fmod_lt_of_pos _ s1
 have t0:=aW b.1 (Int.le_add_of_nonneg_left (aK (a%24)))
 have t1:=Int.add_le_add (bN.mpr (bD a24)) b.2.1
 generalize ((lN c j).fdiv 5).fmod (s-1)=e at f0 f1 ⊢
 induction y4 c j using ah with
 |false=>exact⟨t0,aW t1 (by decide)⟩
 |true=>exact⟨aW t0 (Int.le_add_of_nonneg_right (Int.add_nonneg f0 (by decide))),aW (Int.add_le_add t1 (aW f1 (Int.sub_le_sub_right b.2.2.2 1))) (by decide)⟩
theorem Dg{c:List Int}{a j q:Nat}(h:xO c a j q):fu (iN c j):=by
 obtain⟨p,d,u,r⟩:=IC h
 have b:=CB h r
 have en:Ki c j=((p+7*u:Nat):Int):=by unfold Ki;rw[r.ep,r.eu];rfl
 have es:sO c j=getD zU (p:Int) 0:=by unfold sO;rw[r.ep]
 refine⟨⟨_,Ml p r.p7 u r.u2,es,by show [getD Fv (Ki c j) 0]=_;rw[en]⟩,⟨mo c j,FY b.1 b.2,(fW c j,GQ c j),?_,rfl,rfl,rfl⟩,⟨q/8,r.em,Nat.div_lt_of_lt_mul h.ql⟩⟩
 have e30:(lN c j).fdiv 30=((q/8/30:Nat):Int):=by rw[r.em];exact gO _ 30
 unfold GQ Di
 rw[e30,show(((q/8/30:Nat):Int)).fmod 22=_ from im _ 22,show(((q/8/30:Nat):Int)).fmod 6=_ from im _ 6]
 induction fW c j using ah with
 |true=>exact cY _ (aP.mpr ⟨_,qS (l:=xc) (n:=q/8/30%22) (dM _ (by decide)),rfl⟩)
 |false=>exact dl _ (aP.mpr ⟨_,qS (l:=Fk) (n:=q/8/30%6) (dM _ (by decide)),rfl⟩)
theorem J7{c:List Int}{a j q:Nat}(h:xO c a j q):lI c j:=by
 obtain⟨p,d,u,r⟩:=IC h
 have b:=CB h r
 have bs:=Iv p r.p7 d r.d5
 have es:sO c j=getD zU (p:Int) 0:=by unfold sO;rw[r.ep]
 have en:Ki c j=((p+7*u:Nat):Int):=by unfold Ki;rw[r.ep,r.eu];rfl
 have e30:(lN c j).fdiv 30=((q/8/30:Nat):Int):=by rw[r.em];exact gO _ 30
 have l15: ∀{n:Nat},n<2^15→aH (n:Int):=fun h=>mz (ad (bJ h) (by decide))
 have R:=Dg h
 refine R.w.elim fun v zz=>zz.elim fun hv zz=>zz.elim fun m zz=>zz.elim fun hm zz=>zz.elim fun e1 zz=>zz.elim fun e2 e3=> ?_
 refine⟨by rw[h.l];rfl,by rw[h.a0];exact l15 h.al,⟨?_,l15 (b8 h.j9 (by decide))⟩,by rw[r.ep];exact iS r.p7,by rw[h.l];exact iS (n:=10) (j:=j+1) (Nat.succ_lt_succ h.j9),by rw[h.q0];exact l15 h.ql,⟨?_,?_⟩,by rw[r.em];exact l15 (aj (Nat.div_le_self _ _) h.ql),by rw[es];exact dg (Int.sub_pos_of_lt (Int.lt_of_lt_of_le (by decide) bs.2.2.1)),?_,by rw[e30];exact(show fy 22 (((q/8/30:Nat):Int).fmod 22) by rw[show(((q/8/30:Nat):Int)).fmod 22=_ from im _ 22];exact iS (dM _ (by decide))),by rw[e30];exact(show fy 6 (((q/8/30:Nat):Int).fmod 6) by rw[show(((q/8/30:Nat):Int)).fmod 6=_ from im _ 6];exact iS (dM _ (by decide))),?_,⟨bU (i:=7) rfl,by rw[r.eu];exact l15 (b8 r.u2 (by decide))⟩,by rw[en];exact iS (n:=14) (aA (Nat.add_lt_add_of_lt_of_le r.p7 (bj 7 (bD r.u2))) (by decide))⟩
 ·rw[h.a0,show((a:Nat):Int).fdiv 168=_ from gO a 168,show(((a/168:Nat):Int)).fmod 6=_ from im _ 6]
  exact l15 (n:=a/168%6+1) (aj (dM _ (by decide):a/168%6<6) (by decide))
 ·rw[es];exact aj (qB (b:=17) (aW (by decide) bs.2.2.1) bs.2.2.2) (by decide)
 ·rw[r.ed];exact aj (qB (b:=5) (aW (by decide) (Int.sub_le_sub_right (aK d) 2)) (aW (Int.sub_le_self _ (by decide)) (bN.mpr (bJ r.d5)))) (by decide)
 ·exact aj (qB (b:=73) (aW (by decide) b.1) b.2) (by decide)
 ·rw[show FT c j=_ from e2];exact KJ v hv m hm
noncomputable def mi(c:Nat):Bool:=cond (xR.contains c) false (cond (aS c 34) false (!aS c 92))
noncomputable def Mb(v:Int)(f:Bool)(w:List Nat):Bool:=
 cond (bz w.length 20) (cond (dZ 0 w.length) (cond (w.all fun c=>dZ c 128) (cond (iH w==qO w) (cond (IA w== !Hv (w.flatMap qj)) (cond (cond (IA w) true (w.all mi)) (cond (l4 w).isSome (cond (E7 ((l4 w).getD [])==f) (cond (EP w==w.contains 10)
  (cond f (cond (jE w==v) (cond (PySem.intText? ⟨(sB w).toArray⟩).isSome (bz (sB w).length 20) false) false) true) false) false) false) false) false) false) false) false) false
noncomputable def Ba(l:List Int):Bool:=l.all fun v=>Di.all fun m=>Mb v m.1 (iR v++m.2)
theorem Qo:Ba (bw.take 27)=true:=by kernel_rfl
theorem Qn:Ba ((bw.drop 27).take 27)=true:=by kernel_rfl
theorem Qm:Ba ((bw.drop 54).take 27)=true:=by kernel_rfl
theorem Ql:Ba (bw.drop 81)=true:=by kernel_rfl
theorem Ma:Ba bw=true:=by
 rw[show bw=bw.take 27++((bw.drop 27).take 27++((bw.drop 54).take 27++bw.drop 81)) by kernel_rfl]
 unfold Ba
 rw[cg,cg,cg]
 exact aM.mpr ⟨Qo,aM.mpr ⟨Qn,aM.mpr ⟨Qm,Ql⟩⟩⟩
structure Fw(v:Int)(f:Bool)(w:List Nat):Prop where
 l:w.length≤20
 l0:0<w.length
 c:(w.all fun c=>dZ c 128)=true
 e:iH w=qO w
 s:IA w= !Hv (w.flatMap qj)
 b:cond (IA w) true (w.all mi)=true
 st:(l4 w).isSome=true
 ck:E7 ((l4 w).getD [])=f
 ct:EP w=w.contains 10
 d:f=true→jE w=v∧(PySem.intText? ⟨(sB w).toArray⟩).isSome=true∧(sB w).length≤20
theorem FV{v:Int}{f:Bool}{w:List Nat}(h:Mb v f w=true):Fw v f w:=by
 obtain⟨h1,h⟩:=ct h
 obtain⟨h2,h⟩:=ct h
 obtain⟨h3,h⟩:=ct h
 obtain⟨h4,h⟩:=ct h
 obtain⟨h5,h⟩:=ct h
 obtain⟨h6,h⟩:=ct h
 obtain⟨h7,h⟩:=ct h
 obtain⟨h8,h⟩:=ct h
 obtain⟨h9,h⟩:=ct h
 refine⟨aq h1,aq h2,h3,eq_of_beq h4,eq_of_beq h5,h6,h7,eq_of_beq h8,eq_of_beq h9,fun e=> ?_⟩
 subst e
 obtain⟨k1,h⟩:=ct h
 obtain⟨k2,k3⟩:=ct h
 exact⟨eq_of_beq k1,k2,aq k3⟩
theorem fu.wd{r:den RW}(h:fu r):Fw r.2.2.2.1 r.2.2.2.2.1 r.2.2.1:=by
 obtain⟨v,hv,m,hm,e1,e2,e3⟩:=h.w
 rw[e1,e2,e3]
 exact FV (ay.mp (ay.mp Ma v hv) m hm)
theorem fu.nl{r:den RW}(h:fu r): ∃c,r.2.1=[c]∧c<128:=by
 obtain⟨q,hq,_,e⟩:=h.p
 have key:(uu.all fun q=>dZ q.2 128)=true:=by kernel_rfl
 exact⟨q.2,e,aq (ay.mp key q hq)⟩
theorem rB{w:List Nat}(h:(w.all fun c=>dZ c 128)=true):w.all (fun c=>decide (c<0x110000))=true:=
 ay.mpr fun c m=>decide_eq_true (aA (aq (ay.mp h c m)) (by decide))
theorem Fg(m:Int):(md m).all (fun c=>decide (c<0x110000))=true:=by
 refine ay.mpr fun c h=> ?_
 rw[(List.mem_replicate.mp h).2]
 rfl
theorem G9{w:List Nat}(h:w.all (fun c=>decide (c<0x110000))=true):(qO w).all (fun c=>decide (c<0x110000))=true:=by
 rw[qN]
 refine ay.mpr fun c m=> ?_
 obtain⟨d,hd,hc⟩:=ce.mp m
 unfold qP at hc
 have hd:=ay.mp h d hd
 revert hc
 induction ([92,34]:List Nat).contains d using ah with
 |false=>exact fun hc=>(az.mp hc)▸hd
 |true=>
  intro hc
  cases hc with
  |head=>rfl
  |tail _ m=>exact(az.mp m)▸hd
theorem Jo{x w:List Nat}{m:Int}(hx:x.all (fun c=>decide (c<0x110000))=true)(hw:w.all (fun c=>decide (c<0x110000))=true):jP .str (FU x w m)=true:=by
 show(FU x w m).all _=true
 unfold FU
 induction sj x w m using ah with
 |true=>show(md m++x++[61]++w).all _=true;rw[cg,cg,cg,Fg,hx,hw];rfl
 |false=>show(md m++x++[61]++([34]++qO w++[34])).all _=true;rw[cg,cg,cg,cg,cg,Fg,hx,G9 hw];rfl
theorem fu.fx{r:den RW}(h:fu r):xL r:=by
 obtain⟨c,ec,c128⟩:=h.nl
 obtain⟨k,em,hk⟩:=h.m
 have W:=h.wd
 have hw:=rB W.c
 have bn:=pR (mr r)
 have lb:(md (mr r)++r.2.1).length≤2:=by rw[ak,ec];exact aT bn.2.2 1
 have li:=mJ r.2.2.1
 rw[←qN]at li
 have li:(qO r.2.2.1).length≤40:=ad li (bj 2 W.l)
 have hx:r.2.1.all (fun c=>decide (c<0x110000))=true:=by rw[ec];exact rB (w:=[c]) (by show(dZ c 128&&true)=true;rw[Bool.and_true];exact a8 c128)
 have q:(jj (md (mr r)++r.2.1) r.2.2.1).length≤bS:=by
  unfold jj
  rw[W.e,ak,ak,ak,ak]
  exact ad (aT (bV (aT (bH lb _) _) li) _) (by decide)
 have q2:(n9 (md (mr r)++r.2.1) r.2.2.1).length≤bS:=by
  unfold n9
  rw[ak,ak,ak]
  exact ad (bV (aT (bH lb _) _) W.l) (by decide)
 refine⟨?_,⟨bn.1,ad bn.2.1 (by decide)⟩,ad lb (by decide),⟨decide_eq_true (bR.mpr W.l0),ad W.l (by decide),q,q2⟩,⟨?_,by rw[ec];exact(by decide:1≤1000),ad W.l (by decide),hw⟩,?_,Jo hx hw⟩
 ·rw[show mr r=(k:Int)from em];exact mz (ad (bJ hk) (by decide))
 ·rw[show mr r=(k:Int)from em];exact mz (ad (bJ hk) (by decide))
 ·unfold NG FK Hq FU sj
  have eq:jj (md (mr r)++r.2.1) r.2.2.1=Il r.2.1 r.2.2.1 (mr r):=by
   unfold jj Il
   rw[W.e,List.nil_append]
   simp only[aQ]
   rfl
  have eb:n9 (md (mr r)++r.2.1) r.2.2.1=Jp r.2.1 r.2.2.1 (mr r):=by
   unfold n9 Jp
   rw[List.nil_append]
  rw[eq,eb,W.s]
  unfold EC
  rw[show((mr r).fmod 2 !=0)= !((mr r).fmod 2==0)from rfl]
  induction ((mr r).fmod 2==0)using ah with
  |false=>rfl
  |true=>induction Hv (r.2.2.1.flatMap qj)using ah<;>rfl
noncomputable def OB(s:dS):Int:=s.line+mP 10 s.text
structure Nx(s s':dS)(t:List Nat):Prop where
 t:s'.text=t
 w:s'.ws=s.ws
 p:s'.push=s.push
 l:OB s'=OB s
theorem Pj(c d:Nat):(([c]:List Nat)==[d])=aS c d:=by
 by_cases h:c=d
 ·subst h;rw[beq_self_eq_true];exact(Nat.beq_refl c).symm
 ·rw[beq_eq_false_iff_ne.mpr (fun z=>h (List.head_eq_of_cons_eq z)),dj.mpr (fun z=>h (aV z): ¬aS c d=true)]
theorem jt{s:dS}{c:Nat}{t:List Nat}(e:s.text=c::t):Nx s s.rd t:=by
 obtain⟨i,x,w,p⟩:=s
 obtain rfl:=(show x=c::t from e)
 refine⟨rfl,rfl,rfl,?_⟩
 show cond (G6 [c]) (i+1) i+mP 10 t=i+cond (aS c 10) (1+mP 10 t) (mP 10 t)
 have e:G6 [c]=aS c 10:=Pj c 10
 rw[e]
 induction aS c 10 using ah with
 |false=>rfl
 |true=>exact Int.add_assoc i 1 _
theorem Nx.trans{s1 s2 s3:dS}{t u:List Nat}(a:Nx s1 s2 t)(b:Nx s2 s3 u):Nx s1 s3 u:=⟨b.t,b.w.trans a.w,b.p.trans a.p,b.l.trans a.l⟩
theorem sJ{e:Nat→Bool}{k c:Nat}{s:dS}{t tok:List Nat}(h:s.text=c::t)(he:e c=false)(hb:kG c=false)(hz:(tok++[c]).length≤bS):gE e (k+1) s tok=gE e k s.rd (tok++[c]):=by
 show(ej (some (tok,s,none)) (fun c M M=>cond (e c) (some (tok,s.rd,some c)) (cond (kG c) (cond (gj (tok++kJ s.rd.text).length) (gE e k s.rd.rd (tok++kJ s.rd.text)) none) (cond (gj (tok++[c]).length) (gE e k s.rd (tok++[c])) none))) s.text:Option pw)=_
 rw[h]
 show cond (e c) _ (cond (kG c) _ (cond (gj (tok++[c]).length) (gE e k s.rd (tok++[c])) none))=_
 rw[he,hb,show gj (tok++[c]).length=true from a8 hz]
 rfl
theorem CO{e:Nat→Bool}{k c:Nat}{s:dS}{t tok:List Nat}(h:s.text=92::c::t)(he:e 92=false)(hz:(tok++[c]).length≤bS):gE e (k+1) s tok=gE e k s.rd.rd (tok++[c]):=by
 show(ej (some (tok,s,none)) (fun c M M=>cond (e c) (some (tok,s.rd,some c)) (cond (kG c) (cond (gj (tok++kJ s.rd.text).length) (gE e k s.rd.rd (tok++kJ s.rd.text)) none) (cond (gj (tok++[c]).length) (gE e k s.rd (tok++[c])) none))) s.text:Option pw)=_
 rw[h]
 show cond (e 92) _ (cond (gj (tok++kJ s.rd.text).length) (gE e k s.rd.rd (tok++kJ s.rd.text)) none)=_
 rw[he,(jt h).t]
 show cond (gj (tok++[c]).length) (gE e k s.rd.rd (tok++[c])) none=_
 rw[show gj (tok++[c]).length=true from a8 hz]
 rfl
theorem vQ{e:Nat→Bool}{k c:Nat}{s:dS}{t tok:List Nat}(h:s.text=c::t)(he:e c=true):gE e (k+1) s tok=some (tok,s.rd,some c):=by
 show(ej (some (tok,s,none)) (fun c M M=>cond (e c) (some (tok,s.rd,some c)) (cond (kG c) (cond (gj (tok++kJ s.rd.text).length) (gE e k s.rd.rd (tok++kJ s.rd.text)) none) (cond (gj (tok++[c]).length) (gE e k s.rd (tok++[c])) none))) s.text:Option pw)=_
 rw[h]
 show cond (e c) (some (tok,s.rd,some c)) _=_
 rw[he]
 rfl
theorem wV{tok w:List Nat}{c:Nat}(h:tok.length+(c::w).length≤bS):(tok++[c]).length≤bS∧(tok++[c]).length+w.length≤bS:=by
 rw[b4,←da]at h
 rw[ak,List.length_singleton]
 have h2:tok.length+1+w.length≤bS:=by rw[Nat.add_right_comm];exact h
 exact⟨ad (aG _ _) h2,h2⟩
theorem nN{e:Nat→Bool}{c1:Nat}{t:List Nat}(h1:e c1=true)(w:List Nat): ∀{s:dS} {tok:List Nat} {k:Nat},(∀c∈w,e c=false∧kG c=false)→s.text=w++c1::t→w.length<k→tok.length+w.length≤bS→∃s',gE e k s tok=some (tok++w,s',some c1)∧Nx s s' t:=by
 induction w with
 |nil=>
  intro s tok k _ hs hk _
  obtain⟨k,rfl⟩:=cb (cx hk)
  exact⟨s.rd,by rw[bk];exact vQ hs h1,jt hs⟩
 |cons c w ih=>
  intro s tok k hw hs hk hz
  obtain⟨k,rfl⟩:=cb (cx (aj (a9 _) hk))
  have l:=wV hz
  have hc:=hw c (.head _)
  have n:=jt (c:=c) (t:=w++c1::t) hs
  obtain⟨s',e1,e2⟩:=ih (s:=s.rd) (tok:=tok++[c]) (k:=k) (fun c m=>hw c (.tail _ m)) n.t (dN hk) l.2
  refine⟨s',?_,n.trans e2⟩
  rw[show(k.succ:Nat)=k+1 from rfl,sJ (c:=c) (t:=w++c1::t) hs hc.1 hc.2 l.1,e1,aQ]
  rfl
theorem yc{t:List Nat}(w:List Nat): ∀{s:dS} {tok:List Nat} {k:Nat},s.text=w.flatMap qP++34::t→w.length<k→tok.length+w.length≤bS→∃s',gE (fun c=>f8 [c]) k s tok=some (tok++w,s',some 34)∧Nx s s' t:=by
 induction w with
 |nil=>
  intro s tok k hs hk _
  obtain⟨k,rfl⟩:=cb (cx hk)
  exact⟨s.rd,by rw[bk];exact vQ hs rfl,jt hs⟩
 |cons c w ih=>
  intro s tok k hs hk hz
  obtain⟨k,rfl⟩:=cb (cx (aj (a9 _) hk))
  have l:=wV hz
  have hs:s.text=qP c++w.flatMap qP++34::t:=hs
  unfold qP at hs
  rw[show(k.succ:Nat)=k+1 from rfl]
  induction q:([92,34]:List Nat).contains c using ah with
  |true=>
   rw[q]at hs
   have hs:s.text=92::c::(w.flatMap qP++34::t):=hs
   have n:=(jt hs).trans (jt (jt hs).t)
   obtain⟨s',e1,e2⟩:=ih (s:=s.rd.rd) (tok:=tok++[c]) (k:=k) n.t (dN hk) l.2
   exact⟨s',by rw[CO hs rfl l.1,e1,aQ];rfl,n.trans e2⟩
  |false=>
   rw[q]at hs
   have hs:s.text=c::(w.flatMap qP++34::t):=hs
   have n:=jt hs
   obtain⟨s',e1,e2⟩:=ih (s:=s.rd) (tok:=tok++[c]) (k:=k) n.t (dN hk) l.2
   have q:(c==92||(c==34||false))=false:=q
   have q1:=Bool.or_eq_false_iff.mp q
   have q2:=Bool.or_eq_false_iff.mp q1.2
   have b1:kG c=false:=by unfold kG;show(c==92&&true)=false;rw[q1.1];rfl
   have b2:f8 [c]=false:=by unfold f8;show(c==34&&true)=false;rw[q2.1];rfl
   exact⟨s',by rw[sJ hs b2 b1 l.1,e1,aQ];rfl,n.trans e2⟩
structure xQ(L:Int)(t:List Nat)(s:dS):Prop where
 w:s.ws=xR
 p:s.push=[]
 l:OB s=L
 t:s.text=t∨∃c∈xd,s.text=c::t
theorem xQ.nx{L:Int}{t u:List Nat}{s s':dS}(h:xQ L t s)(n:Nx s s' u):xQ L u s':=⟨n.w.trans h.w,n.p.trans h.p,n.l.trans h.l,.inl n.t⟩
theorem jN{k c:Nat}{s:dS}{t:List Nat}(h:s.text=c::t):kz (k+1) s=nO k s.rd c (kz k s.rd):=by
 show(ej (some ([],s)) (fun c M M=>nO k s.rd c (kz k s.rd)) s.text:Option (List Nat×dS))=_
 rw[h]
theorem qa{L:Int}{t o:List Nat}{P:dS→Prop}{s:dS}(h:xQ L t s)(g: ∀s0 k,xQ L t s0→s0.text=t→50≤k→∃s',kz k s0=some (o,s')∧P s'): ∃s',kz 100 s=some (o,s')∧P s':=by
 refine h.t.elim (fun e=>g s 100 h e (by decide)) fun e=> ?_
 obtain⟨c,hc,e⟩:=e
 have n:=jt e
 obtain⟨s',g1,g2⟩:=g s.rd 99 (h.nx n) n.t (by decide)
 refine⟨s',?_,g2⟩
 rw[show(100:Nat)=99+1 from rfl,jN e]
 unfold nO
 have key:xd.all (fun c=>xR.contains c)=true:=rfl
 rw[n.w,h.w,ay.mp key c hc]
 exact g1
theorem vn{c:Nat}(h:mi c=true):xR.contains c=false∧f8 [c]=false∧kG c=false:=by
 unfold mi at h
 induction a:xR.contains c using ah with
 |true=>rw[a]at h;exact bh h
 |false=>
  rw[a]at h
  have h:cond (aS c 34) false (!aS c 92)=true:=h
  refine⟨rfl,?_,?_⟩
  ·unfold f8
   rw[Pj]
   induction b:aS c 34 using ah with
   |true=>rw[b]at h;exact bh h
   |false=>rfl
  ·unfold kG
   rw[Pj]
   induction b:aS c 34 using ah with
   |true=>rw[b]at h;exact bh h
   |false=>rw[b]at h;exact Bool.not_eq_true' _|>.mp h
theorem CN{L:Int}{c:Nat}{b:List Nat}{u:List Nat}{s:dS}(hb:b=[]∨b=[92])(hc:mi c=true)(h:xQ L (b++[c]++[61]++u) s): ∃s',kz 100 s=some ([c],s')∧xQ L u s':=by
 refine(vn hc).elim fun q1 zz=>zz.elim fun q2 q3=> ?_
 refine qa h fun s0 k A e hk=> ?_
 obtain⟨k,rfl⟩:=cb (cx (aA (by decide) hk))
 have hk:49≤k:=Nat.le_of_succ_le_succ hk
 rcases hb with rfl|rfl
 ·have e:s0.text=c::61::u:=e
  have n:=jt e
  refine(nN (e:=fun c=>xR.contains c) (c1:=61) (t:=u) rfl [] (s:=s0.rd) (tok:=[c]) (k:=k) (fun M m=>nomatch m) n.t (aA (by decide) hk) (aq rfl)).elim fun s' zz=>zz.elim fun r1 r2=> ?_
  refine⟨s',?_,A.nx (n.trans r2)⟩
  rw[show(k.succ:Nat)=k+1 from rfl,jN e]
  unfold nO
  rw[n.w,A.w,q1,q2,q3,r1]
  rfl
 ·have e:s0.text=92::c::61::u:=e
  have n:=jt e
  have n2:=n.trans (jt n.t)
  obtain⟨s',r1,r2⟩:=nN (e:=fun c=>xR.contains c) (c1:=61) (t:=u) rfl [] (s:=s0.rd.rd) (tok:=[c]) (k:=k) (fun M m=>nomatch m) n2.t (aA (by decide) hk) (aq rfl)
  refine⟨s',?_,A.nx (n2.trans r2)⟩
  rw[show(k.succ:Nat)=k+1 from rfl,jN e]
  unfold nO
  rw[n.w,A.w,n.t]
  show((gE (fun c=>xR.contains c) k s0.rd.rd [c]).map fun v=>(v.1,v.2.1))=_
  rw[r1]
  rfl
theorem CM{L:Int}{w u:List Nat}{g:Nat}{s:dS}(hg:g∈xd)(l:w.length≤20)(q:Bool)(hw:q=true→0<w.length∧w.all mi=true)(h:xQ L (cond q w ([34]++qO w++[34])++g::u) s): ∃s',kz 100 s=some (w,s')∧xQ L u s':=by
 have l2:w.length≤bS:=ad l (by decide)
 refine qa h fun s0 k A e hk=> ?_
 obtain⟨k,rfl⟩:=cb (cx (aA (by decide) hk))
 have hk:49≤k:=Nat.le_of_succ_le_succ hk
 have lk:w.length<k:=aj l (aA (by decide) hk)
 rw[show(k.succ:Nat)=k+1 from rfl]
 have gk:xR.contains g=true:=ay.mp (rfl:xd.all (fun c=>xR.contains c)=true) g hg
 induction q using ah with
 |true=>
  obtain⟨h0,hb⟩:=hw rfl
  obtain⟨c,w,rfl⟩:=List.exists_cons_of_length_pos h0
  have hb: ∀d∈c::w,mi d=true:=fun d m=>ay.mp hb d m
  refine(vn (hb c (.head _))).elim fun q1 zz=>zz.elim fun q2 q3=> ?_
  have e:s0.text=c::(w++g::u):=e
  have n:=jt e
  obtain⟨s',r1,r2⟩:=nN (e:=fun c=>xR.contains c) (c1:=g) (t:=u) gk w (s:=s0.rd) (tok:=[c]) (k:=k) (fun d m=>have z:=vn (hb d (.tail _ m));⟨z.1,z.2.2⟩) n.t (Nat.lt_of_succ_lt lk) (by rw[List.length_singleton,bK];exact l2)
  refine⟨s',?_,A.nx (n.trans r2)⟩
  rw[jN e]
  unfold nO
  rw[n.w,A.w,q1,q2,q3,r1]
  rfl
 |false=>
  have e:s0.text=34::(w.flatMap qP++34::g::u):=by
   rw[e]
   show [34]++qO w++[34]++g::u=_
   rw[qN,aQ,aQ]
   rfl
  have n:=jt e
  obtain⟨s',r1,r2⟩:=yc w (s:=s0.rd) (tok:=[]) (k:=k) n.t lk (by rw[List.length_nil,cF];exact l2)
  have r3:=n.trans r2
  refine⟨s',?_,⟨r3.w.trans A.w,r3.p.trans A.p,r3.l.trans A.l,.inr ⟨g,hg,r3.t⟩⟩⟩
  rw[jN e]
  unfold nO
  rw[n.w,A.w]
  show((gE (fun c=>f8 [c]) k s0.rd []).map fun v=>(v.1,v.2.1))=_
  rw[r1]
  rfl
theorem Gf{L:Int}{s:dS}(h:xQ L [] s): ∃s',kz 100 s=some ([],s')∧xQ L [] s'∧s'.text=[]:=by
 refine qa (o:=[]) h fun s0 k A e hk=> ?_
 obtain⟨k,rfl⟩:=cb (cx (aA (by decide) hk))
 refine⟨s0,?_,A,e⟩
 show(ej (some ([],s0)) (fun c M M=>nO k s0.rd c (kz k s0.rd)) s0.text:Option (List Nat×dS))=_
 rw[e]
noncomputable def wj(r:den RW):Nat:=getD xd ((mr r).fmod 3) 0
noncomputable def qy(r:den RW):List Nat:=FK r++[wj r]
theorem H2(m:Int):md m=[]∨md m=[92]:=by
 have h:=(pR m).2.1
 unfold md
 revert h
 generalize ((m.fdiv 4).fmod 2).toNat=n
 intro h
 rcases Nat.lt_or_eq_of_le h with h|h
 ·rw[Nat.lt_one_iff.mp h];exact .inl rfl
 ·rw[h];exact .inr rfl
theorem fu.bare{r:den RW}(h:fu r): ∃c,r.2.1=[c]∧mi c=true:=by
 refine h.p.elim fun q zz=>zz.elim fun hq zz=>zz.elim fun M e=> ?_
 have key:(uu.all fun q=>mi q.2)=true:=by kernel_rfl
 exact⟨q.2,e,ay.mp key q hq⟩
theorem fu.sep{r:den RW}(h:fu r):fy 3 ((mr r).fmod 3)∧wj r∈xd:=by
 refine h.m.elim fun k zz=>zz.elim fun e M=> ?_
 have e3:(mr r).fmod 3=((k%3:Nat):Int):=by rw[show mr r=(k:Int)from e];exact im k 3
 unfold wj
 rw[e3]
 exact⟨iS (dM _ (by decide)),qS (l:=xd) (dM _ (by decide))⟩
theorem fu.read{L:Int}{r:den RW}(h:fu r){u:List Nat}{s:dS}(A:xQ L (qy r++u) s): ∃s1 s2,kz 100 s=some (r.2.1,s1)∧s1.push=[]∧kz 100 s1=some (r.2.2.1,s2)∧xQ L u s2:=by
 refine h.bare.elim fun c zz=>zz.elim fun ec hc=> ?_
 have W:=h.wd
 have hq:sj r.2.1 r.2.2.1 (mr r)=true→0<r.2.2.1.length∧r.2.2.1.all mi=true:=fun z=>by
  unfold sj at z
  refine(ct z).elim fun M z=> ?_
  have s:=W.s
  rw[z]at s
  have b:=W.b
  rw[s]at b
  exact⟨W.l0,b⟩
 have e:qy r++u=md (mr r)++[c]++[61]++(cond (sj r.2.1 r.2.2.1 (mr r)) r.2.2.1 ([34]++qO r.2.2.1++[34])++wj r::u):=by
  unfold qy FK FU Jp Il
  rw[ec]
  induction sj [c] r.2.2.1 (mr r)using ah with
  |true=>show md (mr r)++[c]++[61]++r.2.2.1++[wj r]++u=md (mr r)++[c]++[61]++(r.2.2.1++wj r::u);rw[aQ (md (mr r)++[c]++[61]++r.2.2.1),aQ (md (mr r)++[c]++[61])];rfl
  |false=>show md (mr r)++[c]++[61]++([34]++qO r.2.2.1++[34])++[wj r]++u=md (mr r)++[c]++[61]++([34]++qO r.2.2.1++[34]++wj r::u);rw[aQ (md (mr r)++[c]++[61]++_),aQ (md (mr r)++[c]++[61])];rfl
 rw[e]at A
 refine(CN (H2 (mr r)) hc A).elim fun s1 zz=>zz.elim fun t1 A1=> ?_
 refine(CM h.sep.2 W.l (sj r.2.1 r.2.2.1 (mr r)) hq A1).elim fun s2 zz=>zz.elim fun t2 A2=> ?_
 exact⟨s1,s2,by rw[ec];exact t1,A1.p,t2,A2⟩
theorem Dk{L:Int}(f:Int→den RW)(l:List Int)(h: ∀k∈l,fu (f k)): ∀{s:dS},xQ L (l.flatMap fun k=>qy (f k)) s→∃s',De (u:=HT) PL l s s' (l.flatMap fun k=>yB (f k))∧xQ L [] s':=by
 induction l with
 |nil=>exact fun{s} A=>⟨s,⟨rfl,rfl⟩,A⟩
 |cons k l ih=>
  intro s A
  refine((h k (.head _)).read (u:=l.flatMap fun k=>qy (f k)) A).elim fun s1 zz=>zz.elim fun s2 zz=>zz.elim fun t1 zz=>zz.elim fun p1 zz=>zz.elim fun t2 A2=> ?_
  obtain⟨s',r,A'⟩:=ih (fun x m=>h x (.tail _ m)) A2
  exact⟨s',⟨s2,_,_,⟨100,100,_,_,s1,A.p,p1,t1,t2,rfl⟩,r,rfl⟩,A'⟩
theorem Jx(f:Int→den RW):Mf (bE.map f) ((bE.map f).flatMap rM)=bE.flatMap fun k=>qy (f k):=by
 unfold Mf
 rw[tj]
 kernel_rfl
theorem ve{ns:List Int}{k:Int}(h:k∈qc):xP (gg ns) k=xx ns k:=by
 have key: ∀f:Int→Int,qc.map (xP (qc.map f))=qc.map f:=fun f=>by kernel_rfl
 exact nX (key (xx ns)) h
theorem JG{k:Int}(h:k∈qc): ∃j:Nat,j<10∧k=(j:Int):=Ao (n:=10) h
theorem GN{k:Int}(h:k∈bE): ∃j:Nat,j<9∧k=(j:Int):=Ao (n:=9) h
theorem rh(ns:List Int): ∃a:Nat,(xx ns 0=(a:Int)∧a<2^15)∧∀j<9,∃q:Nat,xO (gg ns) a j q:=by
 refine((zf (ns:=ns) (j:=0) (by decide)).2).elim fun a zz=>zz.elim fun e0 ha=> ?_
 refine⟨a,⟨e0,ha⟩,fun j hj=> ?_⟩
 refine((zf (ns:=ns) (j:=j+1) (Nat.succ_lt_succ hj)).2).elim fun q zz=>zz.elim fun e hq=> ?_
 exact⟨q,rfl,hj,(ve (k:=0) (.head _)).trans e0,ha,(ve (k:=((j+1:Nat):Int)) (ux (n:=10) (aK _) (bR.mpr (Nat.succ_lt_succ hj)))).trans e,hq⟩
theorem lM(ns:List Int): ∀k∈bE,fu (iN (gg ns) k)∧lI (gg ns) k:=fun k hk=>by
 obtain⟨j,hj,rfl⟩:=GN hk
 obtain⟨a,_,h⟩:=rh ns
 obtain⟨q,h⟩:=h j hj
 exact⟨Dg h,J7 h⟩
theorem zR{ns:List Int}: ∀r∈dL ns,fu r:=fun r m=>by
 obtain⟨k,hk,rfl⟩:=aP.mp m
 exact(lM ns k hk).1
theorem JL(ns:List Int):PK (gg ns):=by
 obtain⟨a,⟨e0,ha⟩,_⟩:=rh ns
 have e:getD (gg ns) 0 0=(a:Int):=(ve (ns:=ns) (k:=0) (.head _)).trans e0
 refine⟨rfl,by rw[e];exact mz (ad (bJ ha) (by decide)),?_⟩
 rw[e,show((a:Nat):Int).fdiv 1008=_ from gO a 1008,show(((a/1008:Nat):Int)).fmod 2=_ from im _ 2]
 exact mz (ad (bJ (dM _ (by decide))) (by decide))
theorem qp(ns:List Int):IB (gg ns)=1∨IB (gg ns)= -1:=by
 obtain⟨a,⟨e0,ha⟩,_⟩:=rh ns
 have e:getD (gg ns) 0 0=(a:Int):=(ve (ns:=ns) (k:=0) (.head _)).trans e0
 unfold IB
 rw[e,show((a:Nat):Int).fdiv 1008=_ from gO a 1008,show(((a/1008:Nat):Int)).fmod 2=_ from im _ 2]
 rcases Nat.mod_two_eq_zero_or_one (a/1008)with h|h<;>rw[h]
 ·exact .inl rfl
 ·exact .inr rfl
theorem fu.len{r:den RW}(h:fu r):(qy r).length≤50:=by
 have W:=h.wd
 refine h.nl.elim fun c zz=>zz.elim fun ec M=> ?_
 have li:=mJ r.2.2.1
 rw[←qN]at li
 have li:(qO r.2.2.1).length≤40:=ad li (bj 2 W.l)
 have b:=(pR (mr r)).2.2
 have p:(md (mr r)++r.2.1++[61]).length≤3:=by rw[ak,ak,ec];exact aT (aT b _) _
 have q:([34]++qO r.2.2.1++[34]).length≤42:=by rw[ak,ak];exact aT (bH li 1) 1
 unfold qy FK FU Jp Il
 rw[ak]
 induction sj r.2.1 r.2.2.1 (mr r)using ah with
 |true=>show(md (mr r)++r.2.1++[61]++r.2.2.1).length+1≤50;rw[ak];exact ad (aT (bV p W.l) 1) (by decide)
 |false=>show(md (mr r)++r.2.1++[61]++([34]++qO r.2.2.1++[34])).length+1≤50;rw[ak];exact ad (aT (bV p q) 1) (by decide)
theorem zQ(ns:List Int):pf ns=bE.flatMap fun k=>qy (iN (gg ns) k):=Jx (iN (gg ns))
theorem vS(ns:List Int):(pf ns).length≤450:=by
 rw[zQ]
 exact nr _ bE fun k hk=>(lM ns k hk).1.len
theorem Me{ns:List Int}: ∀k∈bE,Ic (dL ns) (vU ns) k:=fun k hk=>by
 have key: ∀f:Int→den RW,bE.map (Ox (bE.map f) ((bE.map f).flatMap rM))=bE.map fun k=>qy (f k):=fun f=>by kernel_rfl
 have key2: ∀f:Int→den RW,bE.map (rw (bE.map f))=bE.map f:=fun f=>by kernel_rfl
 have R:=(lM ns k hk).1
 have e:=nX (key (iN (gg ns))) hk
 have e2:rw (dL ns) k=iN (gg ns) k:=nX (key2 (iN (gg ns))) hk
 exact⟨pG hk (Mi ns),pG hk (Ir ns),by rw[e2];exact R.sep.1,by rw[show Ox (dL ns) (vU ns) k=_ from e];exact ad R.len (by decide)⟩
theorem MI(ns:List Int):zE (pf ns) 9 (pg ns) [] (1+mP 10 (pf ns)) []:=by
 have A:xQ (1+mP 10 (pf ns)) (bE.flatMap fun k=>qy (iN (gg ns) k)) ⟨1,pf ns,xR,[]⟩:=⟨rfl,rfl,rfl,.inl (zQ ns)⟩
 refine(Dk (iN (gg ns)) bE (fun k hk=>(lM ns k hk).1) A).elim fun s2 zz=>zz.elim fun r A2=> ?_
 refine(Gf A2).elim fun s3 zz=>zz.elim fun t3 zz=>zz.elim fun A3 e3=> ?_
 have el:s3.line=1+mP 10 (pf ns):=by
  have l:=A3.l
  unfold OB at l
  rw[e3]at l
  exact(Int.add_zero _).symm.trans l
 exact⟨by rw[aE];exact ad (vS ns) (by decide),bU (i:=9) rfl,rfl,(by decide:9≤1000000),(by decide:9≤bS),100,s2,s3,r,A2.p,t3,el,e3⟩
theorem ID(ns:List Int):jP (.list HT) (pg ns)=true:=by
 refine ay.mpr fun p m=> ?_
 refine(ce.mp m).elim fun r zz=>zz.elim fun hr hp=> ?_
 rw[az.mp hp]
 have R:=zR r hr
 refine R.nl.elim fun c zz=>zz.elim fun ec c128=> ?_
 show cond (jP .str r.2.1) (jP .str r.2.2.1) false=true
 rw[show jP .str r.2.1=true from by rw[ec];exact rB (w:=[c]) (by show(dZ c 128&&true)=true;rw[Bool.and_true];exact a8 c128)]
 exact rB R.wd.c
theorem DH{r q:den RW}(h:fu r)(g:fu q):(r.2.1.map f7==q.2.1.map f7)=(r.1==q.1):=by
 refine h.p.elim fun a zz=>zz.elim fun ha zz=>zz.elim fun e1 e2=> ?_
 refine g.p.elim fun b zz=>zz.elim fun hb zz=>zz.elim fun e3 e4=> ?_
 rw[e1,e2,e3,e4]
 have key:(uu.all fun a=>uu.all fun b=>([a.2].map f7==[b.2].map f7)==(a.1==b.1))=true:=by kernel_rfl
 exact eq_of_beq (ay.mp (ay.mp key a ha) b hb)
theorem yE{r:den RW}(h:fu r):asc r.2.1=true∧clean (r.2.1.map f7)=true∧clean r.2.1=true:=by
 refine h.p.elim fun a zz=>zz.elim fun ha zz=>zz.elim fun M e=> ?_
 rw[e]
 have key:(uu.all fun a=>cond (asc [a.2]) (cond (clean ([a.2].map f7)) (clean [a.2]) false) false)=true:=by kernel_rfl
 refine(ct (ay.mp key a ha)).elim fun k1 k2=> ?_
 exact⟨k1,ct k2⟩
theorem jz{α:Type}(p:α→Bool)(l:List α):l.flatMap (fun k=>cond (p k) [k] [])=l.filter p:=by
 induction l with
 |nil=>rfl
 |cons x l ih=>
  show cond (p x) [x] []++l.flatMap (fun k=>cond (p k) [k] [])=(x::l).filter p
  rw[ih,List.filter_cons]
  induction p x using ah<;>rfl
section
variable{R:List (den RW)}
noncomputable def mU(R:List (den RW))(k:Int):den HT:=((rw R k).2.1,(rw R k).2.2.1)
noncomputable def kQ(R:List (den RW))(k:Int):Bool:=jQ R (fz R) k&&mO R k
theorem uQ:fz R=bE.filter (mO R):=jz (mO R) bE
theorem pN:iU R=bE.filter (kQ R):=by
 have e:iU R=(fz R).filter (jQ R (fz R)):=jz (jQ R (fz R)) (fz R)
 rw[e]
 have e2:=List.filter_filter (p:=jQ R (fz R)) (q:=mO R) (l:=bE)
 rw[←uQ]at e2
 exact e2
noncomputable def Cr(R:List (den RW))(z j:Int):List (List Nat):=cond ((rw R j).1==z) [(rw R j).2.2.1] []
theorem Aw{x:List Nat}{z:Int}(l:List Int)(hl: ∀j∈l,((rw R j).2.1.map f7==x.map f7)=((rw R j).1==z)):fo (l.map (mU R)) x=(l.flatMap (Cr R z)).head?:=by
 unfold fo
 induction l with
 |nil=>rfl
 |cons j l ih=>
  have ih:=ih fun x m=>hl x (.tail _ m)
  have e:=hl j (.head _)
  show(cond ((rw R j).2.1.map f7==x.map f7) (some (mU R j)) (pj (x.map f7) (l.map (mU R)))).map (·.2)=(cond ((rw R j).1==z) [(rw R j).2.2.1] []++l.flatMap (Cr R z)).head?
  rw[e]
  induction ((rw R j).1==z)using ah with
  |true=>rfl
  |false=>exact ih
theorem j4{pre l:List Int}{k:Int}(e:bE=pre++k::l):(∀j∈pre,j<k)∧(∀j∈l,k<j)∧(∀j∈pre++k::l,j∈bE):=by
 have w:bE.Pairwise (· < ·):=by unfold bE;decide
 rw[e]at w
 refine(List.pairwise_append.mp w).elim fun M zz=>zz.elim fun w2 w3=> ?_
 exact⟨fun j m=>w3 j m k (.head _),fun j m=>(List.pairwise_cons.mp w2).1 j m,fun j m=>e▸m⟩
theorem BU{α β:Type}{f:α→List β}(l:List α)(h: ∀x∈l,f x=[]):l.flatMap f=[]:=by
 induction l with
 |nil=>rfl
 |cons x l ih=>show f x++l.flatMap f=[];rw[h x (.head _),ih fun y m=>h y (.tail _ m)];rfl
theorem oh{α β:Type}{f g:α→List β}(l:List α)(h: ∀x∈l,f x=g x):l.flatMap f=l.flatMap g:=by
 induction l with
 |nil=>rfl
 |cons x l ih=>show f x++l.flatMap f=g x++l.flatMap g;rw[h x (.head _),ih fun y m=>h y (.tail _ m)]
theorem HA{pre l:List Int}{k:Int}(e:bE=pre++k::l):xm R (iU R) k=(pre.filter (kQ R)).flatMap (Cr R (rw R k).1)++cond (kQ R k) [(rw R k).2.2.1] []:=by
 refine(j4 e).elim fun h1 zz=>zz.elim fun h2 M=> ?_
 unfold xm
 rw[pN,e,List.filter_append,List.flatMap_append,List.filter_cons]
 have e1:(pre.filter (kQ R)).flatMap (ol R k)=(pre.filter (kQ R)).flatMap (Cr R (rw R k).1):=oh _ fun j m=>by
  unfold ol
  rw[decide_eq_true (cn (h1 j (cf.mp m).1))]
  rfl
 have e2:(l.filter (kQ R)).flatMap (ol R k)=[]:=BU _ fun j m=>by
  unfold ol
  rw[decide_eq_false (Int.not_le.mpr (h2 j (cf.mp m).1))]
  rfl
 rw[e1]
 refine congrArg _ ?_
 induction kQ R k using ah with
 |false=>exact e2
 |true=>
  show ol R k k++(l.filter (kQ R)).flatMap (ol R k)=_
  rw[e2]
  unfold ol
  rw[decide_eq_true (Int.le_refl k),beq_self_eq_true]
  rfl
def rD(R:List (den RW))(pre:List Int):Prop:=∀z:Int,(∃j∈pre,mO R j=true∧(rw R j).1=z)→∃j∈pre,kQ R j=true∧(rw R j).1=z
theorem uq{pre l:List Int}{k:Int}(e:bE=pre++k::l):jQ R (fz R) k=true↔¬ ∃j∈pre,mO R j=true∧(rw R j).1=(rw R k).1:=by
 refine(j4 e).elim fun h1 zz=>zz.elim fun h2 M=> ?_
 have key:(rw R k).1∈oH R (fz R) k↔∃j∈pre,mO R j=true∧(rw R j).1=(rw R k).1:=by
  unfold oH
  rw[ce,uQ,e]
  constructor
  ·rintro ⟨j,hj,hm⟩
   obtain⟨hj,hf⟩:=cf.mp hj
   unfold oJ at hm
   revert hm
   induction z:decide (j<k)using ah with
   |false=>exact fun hm=>nomatch hm
   |true=>
    intro hm
    have hjk:=of_decide_eq_true z
    have jp:j∈pre:=(cJ.mp hj).elim id fun m=>by
     cases m with
     |head=>exact absurd hjk (Int.lt_irrefl _)
     |tail _ m=>exact absurd hjk (dh.mpr (cn (h2 j m)))
    exact⟨j,jp,hf,(az.mp hm).symm⟩
  ·rintro ⟨j,hj,hf,es⟩
   refine⟨j,cf.mpr ⟨cY _ hj,hf⟩,?_⟩
   unfold oJ
   rw[decide_eq_true (h1 j hj),es]
   exact .head _
 unfold jQ
 rw[←key,Bool.not_eq_true',←Bool.not_eq_true,cO]
theorem Bo{pre l:List Int}{k:Int}(e:bE=pre++k::l)(h:rD R pre):rD R (pre++[k]):=by
 rintro z ⟨j,hj,hf,rfl⟩
 rcases cJ.mp hj with hj|hj
 ·refine(h _ ⟨j,hj,hf,rfl⟩).elim fun i zz=>zz.elim fun hi g=> ?_
  exact⟨i,cY _ hi,g⟩
 ·obtain rfl:=az.mp hj
  induction q:jQ R (fz R) j using ah with
  |true=>exact⟨j,dl _ (.head _),by unfold kQ;rw[q,hf];rfl,rfl⟩
  |false=>
   have n:=mt (uq e).mpr (by rw[q];exact bh)
   refine(h _ (Classical.not_not.mp n)).elim fun i zz=>zz.elim fun hi g=> ?_
   exact⟨i,cY _ hi,g⟩
end
section
variable{R:List (den RW)}
noncomputable def gG(R:List (den RW))(pre:List Int)(k:Int):List (List Nat):=(pre.filter (kQ R)).flatMap (Cr R (rw R k).1)
theorem K3{pre:List Int}{k:Int}{w:List Nat}(h:w∈gG R pre k): ∃j∈pre,kQ R j=true∧(rw R j).1=(rw R k).1:=by
 refine(ce.mp h).elim fun j zz=>zz.elim fun hj hm=> ?_
 refine(cf.mp hj).elim fun hj hf=> ?_
 refine⟨j,hj,hf,?_⟩
 unfold Cr at hm
 induction z:((rw R j).1==(rw R k).1)using ah with
 |true=>exact eq_of_beq z
 |false=>rw[z]at hm;exact nomatch hm
theorem Hn{pre l:List Int}{k:Int}(e:bE=pre++k::l)(S:rD R pre)(h:gG R pre k=[]):jQ R (fz R) k=true:=by
 refine(uq e).mpr fun z=> ?_
 refine(S _ z).elim fun j zz=>zz.elim fun hj zz=>zz.elim fun hf es=> ?_
 have m:(rw R j).2.2.1∈gG R pre k:=ce.mpr ⟨j,cf.mpr ⟨hj,hf⟩,by unfold Cr;rw[es,beq_self_eq_true];exact .head _⟩
 rw[h]at m
 exact nomatch m
theorem Hm{pre l:List Int}{k:Int}{w:List Nat}{G:List (List Nat)}(e:bE=pre++k::l)(h:gG R pre k=w::G):jQ R (fz R) k=false:=by
 refine dj.mpr fun z=>(uq e).mp z ?_
 refine(K3 (R:=R) (pre:=pre) (k:=k) (w:=w) (by rw[h];exact .head _)).elim fun j zz=>zz.elim fun hj zz=>zz.elim fun hf es=> ?_
 exact⟨j,hj,(aM.mp (show(jQ R (fz R) j&&mO R j)=true from hf)).2,es⟩
theorem xj{p:Int→Bool}{pre:List Int}{k:Int}:(pre++[k]).filter p=pre.filter p++cond (p k) [k] []:=by
 rw[List.filter_append,List.filter_cons]
 refine congrArg _ ?_
 induction p k using ah<;>rfl
theorem KW(w:List Nat)(G A B:List (List Nat)):getD (w::G++A++B) 0 []=w:=by
 rw[List.cons_append,List.cons_append]
 exact tC
theorem DX(hR: ∀k∈bE,fu (rw R k)){pre l:List Int}{k:Int}{sd:List (den AL)}(e:bE=pre++k::l)(S:rD R pre):
  sf ⟨(pre.filter (kQ R)).map (mU R),sd⟩ (mU R k)=⟨((pre++[k]).filter (kQ R)).map (mU R),lC R (iU R) sd k⟩:=by
 refine(j4 e).elim fun M zz=>zz.elim fun M hn=> ?_
 have hk:k∈bE:=hn k (dl _ (.head _))
 have W:=(hR k hk).wd
 have ew:GI (mU R k).2=xU R k:=W.ck
 have eg:fo ((pre.filter (kQ R)).map (mU R)) (mU R k).1=(gG R pre k).head?:=Aw (pre.filter (kQ R)) fun j m=>DH (hR j (hn j (cY _ (cf.mp m).1))) (hR k hk)
 have ec:EP (mU R k).2=(rw R k).2.2.1.contains 10:=W.ct
 unfold sf lC
 rw[ew,xj]
 have ef:kQ R k=(jQ R (fz R) k&&cond (xU R k) (!(rw R k).2.2.1.contains 10) false):=rfl
 induction q:xU R k using ah with
 |false=>
  rw[q]at ef
  rw[show kQ R k=false from ef.trans (Bool.and_false _)]
  show rL.mk _ _=rL.mk ((_++[]).map _) _
  rw[bk]
  rfl
 |true=>
  rw[q]at ef
  have ef:kQ R k=(jQ R (fz R) k&& !(rw R k).2.2.1.contains 10):=ef
  have ex:sA R (iU R) k=getD (gG R pre k++cond (kQ R k) [(rw R k).2.2.1] []++[lD]) 0 []:=by unfold sA;rw[HA e];rfl
  rw[ex]
  show rL.mk (DP _ (mU R k)) (sd++[vd true]++[CL _ (mU R k)])=rL.mk (((pre.filter (kQ R))++cond (kQ R k) [k] []).map (mU R)) (sd++[vb true]++[pB (getD (gG R pre k++cond (kQ R k) [(rw R k).2.2.1] []++[lD]) 0 [])])
  have ev:vd true=vb true:=rfl
  unfold DP CL uA wg
  rw[eg,ec,ev]
  induction g:gG R pre k using aO with
  |nil=>
   rw[Hn e S g]at ef
   have ef:kQ R k= !(rw R k).2.2.1.contains 10:=ef
   rw[ef]
   induction z:(rw R k).2.2.1.contains 10 using ah with
   |true=>
    show rL.mk ((pre.filter (kQ R)).map (mU R)) (sd++[vb true]++[pB lD])=rL.mk ((_++[]).map (mU R)) (sd++[vb true]++[pB (getD ([lD]) 0 [])])
    rw[bk,tC]
   |false=>
    show rL.mk ((pre.filter (kQ R)).map (mU R)++[((mU R k).1,(mU R k).2)]) (sd++[vb true]++[pB (mU R k).2])=rL.mk ((_++[k]).map (mU R)) (sd++[vb true]++[pB (getD ((rw R k).2.2.1::[lD]) 0 [])])
    rw[List.map_append,tC]
    rfl
  |cons w G=>
   rw[Hm e g]at ef
   have ef:kQ R k=false:=ef
   rw[ef]
   have eX:getD (w::G++cond false [(rw R k).2.2.1] []++[lD]) 0 []=w:=KW w G _ _
   rw[eX,show pre.filter (kQ R)++cond false [k] []=pre.filter (kQ R)from bk _]
   rfl
theorem DV(hR: ∀k∈bE,fu (rw R k))(l:List Int): ∀{pre:List Int} {sd:List (den AL)},bE=pre++l→rD R pre→sd.length≤2*pre.length→
  gw tO sf (l.map (mU R)) ⟨(pre.filter (kQ R)).map (mU R),sd⟩ ⟨(bE.filter (kQ R)).map (mU R),l.foldl (lC R (iU R)) sd⟩:=by
 induction l with
 |nil=>exact fun{pre sd} e M M=>by rw[bk]at e;rw[e];rfl
 |cons k l ih=>
  intro pre sd e S hz
  refine(j4 e).elim fun M zz=>zz.elim fun M hn=> ?_
  have hk:k∈bE:=hn k (dl _ (.head _))
  have W:=(hR k hk).wd
  have N:=yE (hR k hk)
  have l9:pre.length+(l.length+1)=9:=by have:=congrArg List.length e;rw[ak,b4]at this;exact this.symm
  have lp:pre.length≤9:=ad (aG _ _) (aC l9)
  have lf:((pre.filter (kQ R)).map (mU R)).length≤9:=by rw[aE];exact ad (List.length_filter_le _ _) lp
  refine⟨⟨W.st,⟨ay.mpr fun p m=> ?_,N.1,N.2.1⟩,N.2.2,a8 ?_,ad (aT (ad hz (bj 2 lp)) 2) (by decide)⟩,?_⟩
  ·obtain⟨j,hj,rfl⟩:=aP.mp m
   exact(yE (hR j (hn j (cY _ (cf.mp hj).1)))).1
  ·rw[ak];exact ad (aT lf 1) (by decide)
  ·have r:=ih (pre:=pre++[k]) (sd:=lC R (iU R) sd k) (by rw[e,aQ];rfl) (Bo e S) (by
    rw[ak]
    exact ad (xl R (iU R) sd k) (aT hz 2))
   rw[←DX hR e S]at r
   exact r
end
theorem oK(ns:List Int): ∀k∈bE,fu (rw (dL ns) k):=fun k hk=>by
 have key2: ∀f:Int→den RW,bE.map (rw (bE.map f))=bE.map f:=fun f=>by kernel_rfl
 rw[show rw (dL ns) k=iN (gg ns) k from nX (key2 (iN (gg ns))) hk]
 exact(lM ns k hk).1
noncomputable def gJ(ns:List Int):List (den HT):=(gF ns).map (mU (dL ns))
theorem zS(ns:List Int):pg ns=bE.map (mU (dL ns)):=by
 have key: ∀f:Int→den RW,(bE.map f).flatMap yB=bE.map (mU (bE.map f)):=fun f=>by kernel_rfl
 exact key (iN (gg ns))
theorem M5(ns:List Int):gw tO sf (pg ns) ⟨[],[]⟩ ⟨gJ ns,jO ns⟩:=by
 have r:=DV (oK ns) bE (pre:=[]) (sd:=[]) rfl (fun z ⟨_,m,_⟩=>nomatch m) (a9 _)
 rw[zS]
 have e:gF ns=bE.filter (kQ (dL ns)):=pN
 unfold gJ
 rw[e]
 exact r
section
variable{R:List (den RW)}
theorem gy{k:Int}(h:k∈iU R):k∈bE∧kQ R k=true:=by rw[pN]at h;exact cf.mp h
theorem uO{k:Int}(h:kQ R k=true):jQ R (fz R) k=true∧mO R k=true:=aM.mp (show(jQ R (fz R) k&&mO R k)=true from h)
theorem EA{k:Int}(h:mO R k=true):xU R k=true∧(rw R k).2.2.1.contains 10=false:=by
 refine(ct (show cond (xU R k) (!(rw R k).2.2.1.contains 10) false=true from h)).elim fun a b=> ?_
 exact⟨a,(Bool.not_eq_true' _).mp b⟩
theorem Kj{F:List Int}{i k:Int}(h:jQ R F k=true)(m:i∈F)(l:i<k):(rw R i).1≠(rw R k).1:=fun e=>by
 have z:(oH R F k).contains (rw R k).1=true:=cO.mpr (ce.mpr ⟨i,m,by unfold oJ;rw[decide_eq_true l,e];exact .head _⟩)
 unfold jQ at h
 rw[z]at h
 exact bh h
theorem y8{i j:Int}(hi:i∈iU R)(hj:j∈iU R)(l:i<j):(rw R i).1≠(rw R j).1:=
 Kj (uO (gy hj).2).1 (by rw[uQ];exact cf.mpr ⟨(gy hi).1,(uO (gy hi).2).2⟩) l
theorem Ht{i j:Int}(hi:i∈iU R)(hj:j∈iU R)(e:(rw R i).1=(rw R j).1):i=j:=by
 rcases Int.lt_trichotomy i j with h|h|h
 ·exact absurd e (y8 hi hj h)
 ·exact h
 ·exact absurd e.symm (y8 hj hi h)
end
theorem Hl{P:List Nat→Prop}(h0:P [])(l:List (List Nat))(h: ∀x∈l,P x):P (getD l 0 []):=by
 cases l with
 |nil=>exact h0
 |cons c l=>rw[tC];exact h c (.head _)
theorem Hz{R:List (den RW)}(hR: ∀k∈bE,fu (rw R k))(l:List Int)(hl: ∀k∈l,k∈bE): ∀{sd:List (den AL)},jP (.list AL) sd=true→jP (.list AL) (l.foldl (lC R (iU R)) sd)=true:=by
 have all: ∀(a b:List (den AL)),jP (.list AL) (a++b)=(jP (.list AL) a&&jP (.list AL) b):=fun a b=>cg
 induction l with
 |nil=>exact fun{sd} h=>h
 |cons k l ih=>
  intro sd h
  refine ih (fun x m=>hl x (.tail _ m)) ?_
  have hx:jP .str (sA R (iU R) k)=true:=Hl (P:=fun x=>jP .str x=true) rfl _ fun x m=>by
   rcases cJ.mp m with m|m
   ·obtain⟨j,hj,hm⟩:=ce.mp m
    unfold ol at hm
    have W:=(hR j (gy hj).1).wd
    revert hm
    induction decide (j≤k)using ah with
    |false=>exact fun m=>nomatch m
    |true=>induction ((rw R j).1==(rw R k).1)using ah with
     |false=>exact fun m=>nomatch m
     |true=>exact fun m=>(az.mp m)▸rB W.c
   ·rw[az.mp m];kernel_rfl
  have hs:jP (.list AL) [pB (sA R (iU R) k)]=true:=by
   show(jP .str (sA R (iU R) k)&&true)=true
   rw[hx];rfl
  unfold lC
  induction xU R k using ah with
  |false=>show jP (.list AL) (sd++[vb false])=true;rw[all,h];rfl
  |true=>show jP (.list AL) (sd++[vb true]++[pB (sA R (iU R) k)])=true;rw[all,all,h,hs];rfl
theorem ER(tb:List (den HT)):HI tb=tb:=by unfold HI jG;rw[List.drop_zero];exact List.take_length
theorem qW{α β:Type}(f:α→β)(l:List α):l.flatMap (fun x=>[f x])=l.map f:=by
 induction l with
 |nil=>rfl
 |cons x l ih=>exact congrArg (f x:: ·) ih
theorem KQ(ns:List Int):LL (kC ns) (gF ns) (jO ns) (jO ns) (gJ ns):=by
 have key: ∀f:Int→den RW,bE.map (fun k=>getD ((bE.map f).flatMap yB) k (nu HT))=bE.map (mU (bE.map f)):=fun f=>by kernel_rfl
 have e:GD (pg ns) (gF ns)=gJ ns:=by
  unfold gJ
  rw[←qW (mU (dL ns))]
  refine oh (f:=LQ (pg ns)) _ fun k m=> ?_
  have k2:getD (pg ns) k (nu HT)=mU (dL ns) k:=nX (key (iN (gg ns))) (gy m).1
  unfold LQ
  rw[k2]
 have l9:(gJ ns).length≤9:=by unfold gJ;rw[aE];exact BY (dL ns)
 have o:jP (.list HT) (gJ ns)=true:=by
  have p:=ID ns
  rw[zS]at p
  refine ay.mpr fun q m=> ?_
  obtain⟨k,hk,rfl⟩:=aP.mp m
  exact ay.mp p _ (aP.mpr ⟨k,(gy hk).1,rfl⟩)
 have h2:jP (.list AL) (jO ns)=true:=Hz (R:=dL ns) (oK ns) bE (fun M m=>m) (sd:=[]) rfl
 have hp:(pg ns).length=9:=rfl
 have h3: ∀k∈gF ns,fy (kC ns).P.length k:=fun k m=>pG (gy m).1 hp
 have h4:HI (gJ ns)=GD (kC ns).P (gF ns):=(ER _).trans e.symm
 have h5:jP (.list HT) (GD (kC ns).P (gF ns))=true:=e.symm▸o
 exact⟨rfl,h2,by rw[ER];exact ad l9 (by decide),h4,h5,h3,BY (dL ns)⟩
noncomputable def jC:List (Nat×Nat):=[(97,5),(98,7),(99,8),(100,9),(101,11),(102,13),(103,17)]
noncomputable def ue(tb:List (den HT))(p:Nat×Nat):Option (Nat×Int):=(fo tb [p.1]).map fun w=>(p.2,jE w)
noncomputable def eI(ns:List Int):Sh:=jC.filterMap (ue (gJ ns))
noncomputable def mq(p:Nat×Int):den PI:=((p.1:Int),p.2)
noncomputable def mv(ns:List Int):List (den PI):=(eI ns).map mq
theorem zV{tb:List (den HT)}: ∀l:List (Nat×Nat),bX (l.filterMap (ue tb))∈nP (l.map (·.2))
 |[]=> .head _
 |p::l=>by
  have ih:=zV (tb:=tb) l
  rw[List.filterMap_cons]
  unfold ue
  induction fo tb [p.1]using aw with
  |none=>exact dl _ ih
  |some w=>exact cY _ (aP.mpr ⟨_,ih,rfl⟩)
theorem iJ(ns:List Int):bX (eI ns)∈nP gK:=zV jC
theorem GP{r:den RW}(h:fu r){p:Nat×Nat}(hp:p∈jC):(r.2.1.map f7==([p.1]:List Nat).map f7)=(r.1==(p.2:Int)):=by
 refine h.p.elim fun a zz=>zz.elim fun ha zz=>zz.elim fun e1 e2=> ?_
 rw[e1,e2]
 have key:(uu.all fun a=>jC.all fun b=>([a.2].map f7==[b.1].map f7)==(a.1==(b.2:Int)))=true:=by kernel_rfl
 exact eq_of_beq (ay.mp (ay.mp key a ha) p hp)
theorem JI{r:den RW}(h:fu r): ∃p∈jC,r.1=(p.2:Int):=by
 refine h.p.elim fun a zz=>zz.elim fun ha zz=>zz.elim fun e1 M=> ?_
 have key:(uu.all fun a=>jC.any fun b=>a.1==(b.2:Int))=true:=by kernel_rfl
 refine(List.any_eq_true.mp (ay.mp key a ha)).elim fun p zz=>zz.elim fun hp e=> ?_
 exact⟨p,hp,e1.trans (eq_of_beq e)⟩
theorem Hi(ns:List Int){p:Nat×Nat}(hp:p∈jC):fo (gJ ns) [p.1]=((gF ns).flatMap (Cr (dL ns) (p.2:Int))).head?:=
 Aw (gF ns) fun j m=>GP (oK ns j (gy m).1) hp
theorem ud(ns:List Int){p:Nat×Nat}(hp:p∈jC)(w:List Nat):fo (gJ ns) [p.1]=some w↔∃j∈gF ns,(rw (dL ns) j).1=(p.2:Int)∧w=(rw (dL ns) j).2.2.1:=by
 have mem: ∀{w j},w∈Cr (dL ns) (p.2:Int) j↔(rw (dL ns) j).1=(p.2:Int)∧w=(rw (dL ns) j).2.2.1:=fun{w j}=>by
  unfold Cr
  induction z:((rw (dL ns) j).1==(p.2:Int))using ah with
  |true=>exact⟨fun m=>⟨eq_of_beq z,az.mp m⟩,fun m=>az.mpr m.2⟩
  |false=>exact⟨fun m=>(nomatch m),fun m=>absurd m.1 (ne_of_beq_false z)⟩
 rw[Hi ns hp]
 constructor
 ·intro h
  refine(ce.mp (List.mem_of_mem_head? h)).elim fun j zz=>zz.elim fun hj hm=> ?_
  exact⟨j,hj,mem.mp hm⟩
 ·rintro ⟨j,hj,e1,rfl⟩
  have m:(rw (dL ns) j).2.2.1∈(gF ns).flatMap (Cr (dL ns) (p.2:Int)):=ce.mpr ⟨j,hj,mem.mpr ⟨e1,rfl⟩⟩
  refine(List.exists_cons_of_ne_nil (List.ne_nil_of_mem m)).elim fun w zz=>zz.elim fun G e=> ?_
  obtain⟨i,hi,hm⟩:=ce.mp (show w∈(gF ns).flatMap (Cr (dL ns) (p.2:Int)) by rw[e];exact .head _)
  refine(mem.mp hm).elim fun e2 z1z=> ?_
  obtain rfl:=z1z
  rw[e,Ht hi hj (e2.trans e1.symm)]
  rfl
theorem uR{ns:List Int}{j:Int}(h:j∈gF ns):jE (rw (dL ns) j).2.2.1=(rw (dL ns) j).2.2.2.1:=by
 have W:=(oK ns j (gy h).1).wd
 exact(W.d (EA (uO (gy h).2).2).1).1
theorem C6(ns:List Int)(a:den PI):a∈mv ns↔∃j∈gF ns,a=((rw (dL ns) j).1,(rw (dL ns) j).2.2.2.1):=by
 constructor
 ·intro h
  obtain⟨q,hq,rfl⟩:=aP.mp h
  obtain⟨p,hp,e⟩:=List.mem_filterMap.mp hq
  obtain⟨w,ew,rfl⟩:=bG.mp e
  obtain⟨j,hj,e1,rfl⟩:=(ud ns hp w).mp ew
  exact⟨j,hj,by rw[e1,←uR hj];rfl⟩
 ·rintro ⟨j,hj,rfl⟩
  obtain⟨p,hp,e⟩:=JI (oK ns j (gy hj).1)
  have ew:=(ud ns hp _).mpr ⟨j,hj,e,rfl⟩
  refine aP.mpr ⟨(p.2,jE (rw (dL ns) j).2.2.1),List.mem_filterMap.mpr ⟨p,hp,by unfold ue;rw[ew];rfl⟩,?_⟩
  rw[uR hj]
  unfold mq
  rw[e]
theorem Gi(ns:List Int):(eI ns).Pairwise fun a b=>a.1<b.1:=by
 have w:jC.Pairwise fun a b=>a.2<b.2:=by unfold jC;decide
 refine List.Pairwise.filterMap _ (fun a b l x hx y hy=> ?_) w
 obtain⟨_,_,rfl⟩:=bG.mp hx
 obtain⟨_,_,rfl⟩:=bG.mp hy
 exact l
theorem Iw(ns:List Int):(mv ns).Pairwise fun a b=>a.1<b.1:=List.pairwise_map.mpr ((Gi ns).imp fun h=>bR.mpr h)
theorem Mn(ns:List Int):(mv ns).Perm (Gp (dL ns) (gF ns)):=by
 have e:Gp (dL ns) (gF ns)=(gF ns).map fun k=>((rw (dL ns) k).1,(rw (dL ns) k).2.2.2.1):=qW _ _
 rw[e]
 have n1:(mv ns).Nodup:=(Iw ns).imp fun h e=>by rw[e]at h;exact Int.lt_irrefl _ h
 have n2:((gF ns).map fun k=>((rw (dL ns) k).1,(rw (dL ns) k).2.2.2.1)).Nodup:=by
  have w:bE.Pairwise (· < ·):=by unfold bE;decide
  have w:=w.filter (kQ (dL ns))
  rw[←pN]at w
  exact List.pairwise_map.mpr (List.Pairwise.imp_of_mem (fun{i j} hi hj l=>fun e=>y8 hi hj l (Prod.mk.inj e).1) w)
 refine(List.perm_ext_iff_of_nodup n1 n2).mpr fun a=>(C6 ns a).trans ?_
 rw[aP]
 exact⟨fun⟨j,h,e⟩=>⟨j,h,e.symm⟩,fun⟨j,h,e⟩=>⟨j,h,e.symm⟩⟩
theorem lK{ns:List Int}{p:Nat×Int}(h:p∈eI ns):p.1∈gK:=by
 obtain⟨q,hq,e⟩:=List.mem_filterMap.mp h
 obtain⟨_,_,rfl⟩:=bG.mp e
 exact(aP (f:=fun x:Nat×Nat=>x.2) (l:=jC)).mpr ⟨q,hq,rfl⟩
theorem qb{ns:List Int}{p:Nat×Int}(h:p∈eI ns): -34≤p.2∧p.2≤73:=by
 obtain⟨j,hj,e⟩:=(C6 ns (mq p)).mp (aP.mpr ⟨p,h,rfl⟩)
 obtain⟨v,hv,m,hm,e1,_⟩:=(oK ns j (gy hj).1).w
 have e2:p.2=v:=(congrArg Prod.snd e).trans e1
 rw[e2]
 obtain⟨i,hi,rfl⟩:=aP.mp hv
 have:=cI.mp hi
 exact⟨by show -34≤(i:Int)-34;omega,by show(i:Int)-34≤73;omega⟩
theorem og(v z:Int):v.fmod (-z)= -((-v).fmod z):=by
 rw[Int.fmod_def v,Int.fmod_def (-v),show v.fdiv (-z)=(-v).fdiv z from by rw[←Int.neg_fdiv_neg (-v) z,Int.neg_neg],Int.neg_mul,Int.sub_neg,Int.neg_sub,Int.sub_neg,Int.add_comm]
theorem xf{a b:Int}{z:Nat}:a.fmod z=b.fmod z↔(a-b)%(z:Int)=0:=by
 rw[b7 _ (aK z),b7 _ (aK z)]
 exact Int.emod_eq_emod_iff_emod_sub_eq_zero
theorem F7{sg v:Int}(hs:sg=1∨sg= -1)(z le:Nat):((sg*(le:Int)).fmod z !=sg*v.fmod (sg*(z:Int)))= !((((le:Int)-v)%(z:Int))==0):=by
 have key:((sg*(le:Int)).fmod z=sg*v.fmod (sg*(z:Int)))↔((le:Int)-v)%(z:Int)=0:=by
  rcases hs with rfl|rfl
  ·rw[cw,cw,cw]
   exact xf
  ·rw[Int.neg_one_mul,Int.neg_one_mul,Int.neg_one_mul,og,Int.neg_neg,xf]
   rw[show -(le:Int)- -v= -((le:Int)-v)from by rw[Int.neg_sub,Int.sub_neg,Int.add_comm,←Int.sub_eq_add_neg]]
   exact Int.dvd_iff_emod_eq_zero.symm.trans (Int.dvd_neg.trans Int.dvd_iff_emod_eq_zero)
 refine congrArg (!·) ?_
 by_cases h:((le:Int)-v)%(z:Int)=0
 ·rw[beq_iff_eq.mpr (key.mpr h),beq_iff_eq.mpr h]
 ·rw[beq_eq_false_iff_ne.mpr (fun e=>h (key.mp e)),beq_eq_false_iff_ne.mpr h]
theorem KG{sg v:Int}(hs:sg=1∨sg= -1)(z w:Nat)(l:List Int): ∀(le:Nat),l.foldl (Ct sg w z (v.fmod (sg*(z:Int)))) (le:Int)=((om z v w l.length le:Nat):Int):=by
 induction l with
 |nil=>exact fun M=>rfl
 |cons t l ih=>
  intro le
  show l.foldl _ (cond ((sg*(le:Int)).fmod z !=sg*v.fmod (sg*(z:Int))) ((le:Int)+(w:Int)) (le:Int))=((om z v w l.length (cond (((le:Int)-v)%(z:Int)==0) le (le+w)):Nat):Int)
  rw[F7 hs]
  induction (((le:Int)-v)%(z:Int)==0)using ah with
  |true=>exact ih le
  |false=>exact ih (le+w)
theorem AK(z:Nat)(v:Int)(w:Nat): ∀f le,om z v w f le≤le+f*w
 |0,le=>aG _ _
 |f+1,le=>by
  refine ad (AK z v w f _) ?_
  rw[Nat.add_mul,dR]
  induction (((le:Int)-v)%(z:Int)==0)using ah with
  |true=>exact bH (aG _ _) le
  |false=>exact aC (show le+w+f*w=le+(f*w+w) by rw[da,bK w])
theorem KE{sg re z:Int}{w:Nat}(l:List Int): ∀(le:Nat),le+l.length*w<2^60→gw (LM sg re) (Ct sg w z re) l (le:Int) (l.foldl (Ct sg w z re) (le:Int)):=by
 induction l with
 |nil=>exact fun M M=>rfl
 |cons t l ih=>
  intro le h
  rw[b4,Nat.add_mul,dR]at h
  refine⟨b8 (aj (aG _ _) h) (by decide),?_⟩
  show gw _ _ l (Ct sg w z re le t) (l.foldl _ (Ct sg w z re le t))
  unfold Ct
  induction ((sg*(le:Int)).fmod z !=sg*re)using ah with
  |true=>exact ih (le+w) (by rw[da,bK w];exact h)
  |false=>exact ih le (aj (bH (aG _ _) le) h)
structure jf(z:Nat):Prop where
 s:aH (z:Int)
 b:z≤17
 b5:5≤z
 r:aY 0 (z:Int) 1=true
 l:(iO (z:Int)).length=z
theorem iL{z:Nat}(h:z∈gK):jf z:=by
 have key:(gK.all fun z=>cond (bz z 17) (cond (bz 5 z) (cond (aY 0 (z:Int) 1) (aS (iO (z:Int)).length z) false) false) false)=true:=by kernel_rfl
 obtain⟨k1,k⟩:=ct (ay.mp key z h)
 obtain⟨k2,k⟩:=ct k
 obtain⟨k3,k⟩:=ct k
 have k1:=aq k1
 exact⟨aj k1 (by decide),k1,aq k2,k3,aV k⟩
theorem jf.n1{z:Nat}(Z:jf z):1≤z:=ad (by decide) Z.b5
theorem jf.pos{z:Nat}(Z:jf z):(0:Int)<z:=dy.mpr Z.n1
theorem jf.ne{z:Nat}(Z:jf z):(z:Int)≠0:=dg Z.pos
theorem I3{v:Int}{z:Nat}(hz:(0:Int)<z):(v.fmod z).natAbs<z:=bR.mp (by rw[Int.natAbs_of_nonneg (Int.fmod_nonneg_of_pos v hz)];exact Int.fmod_lt_of_pos v hz)
theorem Eo{v g:Int}(hv: -34≤v∧v≤73){N:Nat}(hg:g.natAbs≤N):(v-g).natAbs≤N+73:=ad (Int.natAbs_sub_le v g) (ad (bV (qB (b:=73) (aW (by decide) hv.1) hv.2) hg) (aC (bK _ _)))
theorem ic{sg:Int}(hs:sg=1∨sg= -1):aH sg∧sg≠0∧sg.natAbs=1:=by rcases hs with rfl|rfl<;>exact⟨by unfold aH;decide,by decide,rfl⟩
theorem qq{sg:Int}(hs:sg=1∨sg= -1)(x:Int):(sg*x).natAbs=x.natAbs:=by rw[Int.natAbs_mul,(ic hs).2.2,dR]
theorem I7{sg v:Int}(hs:sg=1∨sg= -1){z:Nat}(Z:jf z)(hv:v.natAbs<2^20):uH v (sg*(z:Int)) 3=some (v.fdiv (sg*(z:Int)),v.fmod (sg*(z:Int))):=by
 have nz:(sg*(z:Int)).natAbs=z:=qq hs z
 exact(AI (b8 hv (by decide)) (fun e=>cx Z.n1 (nz.symm.trans (congrArg Int.natAbs e))) (by rw[nz];exact aj Z.b (by decide))).e
theorem ym{sg v:Int}(hs:sg=1∨sg= -1){z:Nat}(Z:jf z)(hv:v.natAbs<2^20):aH (v.fmod (sg*(z:Int)))∧aH (v.fdiv (sg*(z:Int)))∧aH (v.fdiv (sg*(z:Int))*sg):=by
 have q:=Int.natAbs_fdiv_le_natAbs v (sg*(z:Int))
 have q:=aj q (b8 hv (by decide:2^20<2^62))
 have b:z<2^62:=aj Z.b (by decide)
 refine⟨?_,q,?_⟩
 ·rcases hs with rfl|rfl
  ·rw[cw]
   exact b8 (I3 Z.pos) b
  ·rw[Int.neg_one_mul,og]
   exact aj (aC (Int.natAbs_neg _)) (b8 (I3 Z.pos) b)
 ·have e:(v.fdiv (sg*(z:Int))*sg).natAbs=(v.fdiv (sg*(z:Int))).natAbs:=by rw[Int.natAbs_mul,(ic hs).2.2,Nat.mul_one]
  exact aj (aC e) q
structure OK(w:List Nat):Prop where
 l:w.length≤20
 d:(PySem.intText? ⟨(sB w).toArray⟩).isSome=true∧(sB w).length≤20
 v:(jE w).natAbs<2^20
theorem E9{sg:Int}(hs:sg=1∨sg= -1){z:Nat}(Z:jf z){w:List Nat}(hw:OK w){s:jM}{le wh:Nat}(e1:s.le=(le:Int))(e2:s.wh=(wh:Int)):
  za sg (z:Int) w=((jE w).fdiv (sg*(z:Int)),(jE w).fmod (sg*(z:Int)))∧HW sg (z:Int) s (za sg (z:Int) w)=⟨s.sh++[mq (z,jE w)],(om z (jE w) wh z le:Nat),((wh*z:Nat):Int)⟩:=by
 have e:=I7 hs Z hw.v
 have ed:za sg (z:Int) w=((jE w).fdiv (sg*(z:Int)),(jE w).fmod (sg*(z:Int))):=by unfold za;rw[e];rfl
 refine⟨ed,?_⟩
 rw[ed]
 unfold HW Kn
 rw[e1,e2,KG hs z wh (iO (z:Int)) le,Z.l]
 have ev:(jE w).fdiv (sg*(z:Int))*sg*(z:Int)+(jE w).fmod (sg*(z:Int))=jE w:=by
  rw[db,dO]
  exact Int.mul_fdiv_add_fmod _ _
 rw[ev]
 rfl
theorem Lz{sg:Int}(hs:sg=1∨sg= -1){z:Nat}(Z:jf z){w:List Nat}(hw:OK w){s:jM}{le wh:Nat}(e1:s.le=(le:Int))(e2:s.wh=(wh:Int))(hl:le≤20*wh)(hb:wh≤12252240)(h9:s.sh.length≤9):Ik sg (z:Int) s w (za sg (z:Int) w):=by
 have e:=I7 hs Z hw.v
 have R:=ym hs Z hw.v
 rw[(E9 hs Z hw e1 e2).1]
 have d1: ∀c,(uY c).length≤1:=fun c=>by unfold uY;induction Lj.contains c using ah with |false=>exact a9 1|true=>exact av 1
 refine⟨ad hw.l (by decide),ad (ad (eZ _ d1 _) hw.l) (by decide),ad hw.d.2 (by decide),⟨hw.d.1,ad hw.d.2 (by decide)⟩,e,(ic hs).1,Z.s,Z.ne,Z.r,R.1,?_,by rw[e2];exact(aj hb (by decide):Int.natAbs (wh:Int)<2^62),R.2.1,R.2.2,by rw[ak];exact ad (aT h9 1) (by decide)⟩
 rw[e1,e2]
 refine KE _ le ?_
 rw[Z.l]
 exact aj (bV (ad hl (bj 20 hb)) (Nat.mul_le_mul Z.b hb)) (by decide)
theorem B8{tb:List (den HT)}{sg:Int}(hs:sg=1∨sg= -1)(ht: ∀p∈jC,FF tb [p.1])(hw: ∀p∈jC,∀w,fo tb [p.1]=some w→OK w)(q:List (Nat×Nat)): ∀{s:jM} {le wh:Nat},(∀p∈q,p∈jC)→s.le=(le:Int)→s.wh=(wh:Int)→le≤20*wh→1≤wh→wh*bx (q.map (·.2))≤12252240→s.sh.length+q.length≤9→
  gw (Cq tb sg) (HV tb sg) (q.map fun p=>(p.1,(p.2:Int))) s ⟨s.sh++(q.filterMap (ue tb)).map mq,(EQ (q.filterMap (ue tb)) le wh:Nat),((wh*bx (bX (q.filterMap (ue tb))):Nat):Int)⟩:=by
 induction q with
 |nil=>
  intro s le wh _ e1 e2 _ _ _ _
  show s=_
  obtain⟨a,b,c⟩:=s
  obtain rfl:=(show b=_ from e1)
  obtain rfl:=(show c=_ from e2)
  show jM.mk a le wh=jM.mk (a++[]) le ((wh*1:Nat):Int)
  rw[bk,Nat.mul_one]
 |cons p q ih=>
  intro s le wh hq e1 e2 hl h1 hb h9
  have hp:=hq p (.head _)
  have Z:=iL ((aP (f:=fun x:Nat×Nat=>x.2) (l:=jC)).mpr ⟨p,hp,rfl⟩)
  have hb:wh*(p.2*bx (q.map (·.2)))≤12252240:=hb
  have pz:1≤bx (q.map (·.2)):=qx fun x m=>by
   obtain⟨r,hr,rfl⟩:=aP.mp m
   exact(iL ((aP (f:=fun x:Nat×Nat=>x.2) (l:=jC)).mpr ⟨r,hq r (.tail _ hr),rfl⟩)).n1
  have hwb:wh≤12252240:=ad (cy _ (Nat.mul_pos Z.n1 pz)) hb
  have h9':s.sh.length+(q.length+1)≤9:=h9
  have W: ∀w,fo tb [p.1]=some w→Ik sg (p.2:Int) s w (za sg (p.2:Int) w):=fun w e=>Lz hs Z (hw p hp w e) e1 e2 hl hwb (ad (aG _ _) h9')
  refine⟨⟨ht p hp,W⟩,?_⟩
  rw[List.filterMap_cons]
  show gw _ _ _ (cD s (fun w=>HW sg (p.2:Int) s (za sg (p.2:Int) w)) (fo tb [p.1]):jM) _
  unfold ue
  induction g:fo tb [p.1]using aw with
  |none=>
   exact ih (s:=s) (fun x m=>hq x (.tail _ m)) e1 e2 hl h1 (ad (bj wh (Nat.le_mul_of_pos_left _ Z.n1)) hb) (cS h9')
  |some w=>
   have hw:=hw p hp w g
   have en:=(E9 hs Z hw e1 e2).2
   have lc:=AK p.2 (jE w) wh p.2 le
   have hle:om p.2 (jE w) wh p.2 le≤20*(wh*p.2):=by
    have h5:4*(5*wh)≤4*(wh*p.2):=bj 4 (Nat.mul_comm p.2 wh▸dE wh Z.b5)
    rw[←Nat.mul_assoc]at h5
    refine ad lc (ad (bV (ad hl h5) (aC ((Nat.mul_comm _ _).trans (dR _).symm))) ?_)
    rw[←Nat.add_mul]
    exact dE _ (by decide)
   have r:=ih (s:=HW sg (p.2:Int) s (za sg (p.2:Int) w)) (le:=om p.2 (jE w) wh p.2 le) (wh:=wh*p.2) (fun x m=>hq x (.tail _ m)) (by rw[en]) (by rw[en]) hle (Nat.mul_pos h1 Z.n1) (by rw[Nat.mul_assoc];exact hb) (by rw[en];show(s.sh++[mq (p.2,jE w)]).length+q.length≤9;rw[ak];show s.sh.length+1+q.length≤9;rw[Nat.add_right_comm];exact h9')
   refine Eq.mp (congrArg (gw (Cq tb sg) (HV tb sg) (q.map fun p=>(p.1,(p.2:Int))) (HW sg (p.2:Int) s (za sg (p.2:Int) w))) ?_) r
   rw[en]
   rw[aQ,Nat.mul_assoc]
   rfl
theorem te{n j:Nat}(h:0<j):eQ (n+j) (-(j:Int))=some n:=by
 show(if(0≤(if -(j:Int)<0 then -(j:Int)+((n+j:Nat):Int)else -(j:Int))&&(if -(j:Int)<0 then -(j:Int)+((n+j:Nat):Int)else -(j:Int))<((n+j:Nat):Int))then some (if -(j:Int)<0 then -(j:Int)+((n+j:Nat):Int)else -(j:Int)).toNat else none)=some n
 have e: -(j:Int)+((n+j:Nat):Int)=(n:Int):=by rw[dz,Int.add_comm (n:Int),Int.neg_add_cancel_left]
 rw[if_pos (Int.neg_neg_of_pos (dy.mpr h)),e,decide_eq_true (aK n),decide_eq_true (bR.mpr (dF h)),Int.toNat_natCast]
 rfl
theorem pX(pre:List (den PI))(x y:den PI):(fy (pre++[x,y]).length (-2)∧fy (pre++[x,y]).length (-1))∧kR (pre++[x,y]) (-2)=x∧kR (pre++[x,y]) (-1)=y:=by
 have p2:eQ (pre++[x,y]).length (-2)=some pre.length:=by rw[ak];exact te (j:=2) (by decide)
 have p1:eQ (pre++[x,y]).length (-1)=some (pre.length+1):=by rw[ak];exact te (n:=pre.length+1) (j:=1) (by decide)
 refine⟨⟨by unfold fy;rw[p2];rfl,by unfold fy;rw[p1];rfl⟩,?_,?_⟩
 ·show((eQ (pre++[x,y]).length (-2)).bind ((pre++[x,y])[·]?)).getD _=x
  rw[p2]
  show((pre++[x,y])[pre.length]?).getD _=x
  rw[bA (av _),Nat.sub_self]
  rfl
 ·show((eQ (pre++[x,y]).length (-1)).bind ((pre++[x,y])[·]?)).getD _=y
  rw[p1]
  show((pre++[x,y])[pre.length+1]?).getD _=y
  rw[bA (aG pre.length 1),Nat.add_sub_cancel_left]
  rfl
theorem JK{sg:Int}(hs:sg=1∨sg= -1)(a b:Nat):(sg*(a:Int)).fdiv (sg*(b:Int))=((a/b:Nat):Int)∧(sg*(a:Int)).fmod (sg*(b:Int))=sg*((a%b:Nat):Int):=by
 rcases hs with rfl|rfl
 ·rw[cw,cw,cw]
  exact⟨gO a b,im a b⟩
 ·rw[Int.neg_one_mul,Int.neg_one_mul,Int.neg_one_mul,Int.neg_fdiv_neg,og,Int.neg_neg]
  exact⟨gO a b,congrArg (-·) (im a b)⟩
theorem mB{sg:Int}(hs:sg=1∨sg= -1)(a:Nat):(sg*(a:Int)).natAbs=a:=qq hs a
noncomputable def jB(sg:Int)(x:Nat×Int):den PI:=(sg*(x.1:Int),x.2)
theorem pd.small{μ X:Int}{a b:Nat}{k' k:Int}(T:pd μ X a b k' k)(h:0<a):(k.natAbs:Int)≤μ:=by
 cases T with |mk e c d he hc hd hk hk' det u v ra rb=>
 rw[zZ he hk,Int.natAbs_of_nonneg hd,←det]
 exact aW (aW (Int.le_of_eq (cw d).symm) (Int.mul_le_mul_of_nonneg_right (bN.mpr h) hd)) (Int.le_add_of_nonneg_right (Int.mul_nonneg (aK b) hc))
theorem EF(f:Nat): ∀{a b:Nat} {k' k:Int},(eu f a b k' k).length≤f:=by
 induction f with
 |zero=>exact av _
 |succ f ih=>
  intro a b k' k
  show(cond (aS b 0) [] ((a%b,k'-(a/b:Nat)*k)::eu f b (a%b) k (k'-(a/b:Nat)*k))).length≤f+1
  induction aS b 0 using ah with
  |true=>exact a9 _
  |false=>exact cM ih
theorem J5{sg:Int}(hs:sg=1∨sg= -1){μ X:Int}(hM:μ≤12252240)(f:Nat): ∀{a b:Nat} {k' k:Int} (_:pd μ X a b k' k) (_:b≤a) (_:a≤12252240) (pre:List (den PI)) (ts:List Int),ts.length=(eu f a b k' k).length→pre.length+ts.length≤50→
  gw Cl z7 ts (pre++[jB sg (a,k'),jB sg (b,k)]) (pre++(jB sg (a,k')::jB sg (b,k)::(eu f a b k' k).map (jB sg))):=by
 have nil: ∀{a b:Nat} {k' k:Int} {pre:List (den PI)} {ts:List Int} {r:List (Nat×Int)},r=[]→ts.length=r.length→gw Cl z7 ts (pre++[jB sg (a,k'),jB sg (b,k)]) (pre++(jB sg (a,k')::jB sg (b,k)::r.map (jB sg))):=fun e h=>by
  subst e
  obtain rfl:=List.length_eq_zero_iff.mp h
  rfl
 induction f with
 |zero=>exact fun{a b k' k} M M M pre ts h M=>nil rfl h
 |succ f ih=>
  intro a b k' k T hb ha pre ts h hz
  by_cases b0:b=0
  ·exact nil (by subst b0;rfl) h
  ·have ee:eu (f+1) a b k' k=(a%b,k'-(a/b:Nat)*k)::eu f b (a%b) k (k'-(a/b:Nat)*k):=by
    show cond (aS b 0) _ _=_
    rw[dj.mpr (fun z=>b0 (aV z): ¬aS b 0=true)]
    rfl
   rw[ee]at h ⊢
   have hp:=dB b0
   refine(List.exists_cons_of_length_eq_add_one h).elim fun t zz=>zz.elim fun ts z1z=> ?_
   obtain rfl:=z1z
   obtain⟨⟨i2,i1⟩,e2,e1⟩:=pX pre (jB sg (a,k')) (jB sg (b,k))
   have dv:=AI (a:=sg*(a:Int)) (b:=sg*(b:Int)) (by rw[mB hs];exact aj ha (by decide)) (fun z=>b0 ((mB hs b).symm.trans (congrArg Int.natAbs z))) (by rw[mB hs];exact aj (ad hb ha) (by decide))
   have sd:=JK hs a b
   have ed:uH (kR (pre++[jB sg (a,k'),jB sg (b,k)]) (-2)).1 (kR (pre++[jB sg (a,k'),jB sg (b,k)]) (-1)).1 3=some (((a/b:Nat):Int),sg*((a%b:Nat):Int)):=by
    rw[e2,e1,←sd.1,←sd.2]
    exact dv.e
   have ev:um (pre++[jB sg (a,k'),jB sg (b,k)])=(((a/b:Nat):Int),sg*((a%b:Nat):Int)):=by unfold um;rw[ed];rfl
   have er:z7 (pre++[jB sg (a,k'),jB sg (b,k)]) t=(pre++[jB sg (a,k')])++[jB sg (b,k),jB sg (a%b,k'-(a/b:Nat)*k)]:=by
    unfold z7
    rw[ev,e2,e1,aQ,aQ]
    rfl
   have zk:=pd.small T (aA hp hb)
   have lz:pre.length+(ts.length+1)≤50:=hz
   refine⟨⟨i2,i1,by rw[ev];exact ed,by rw[ev];exact(show Int.natAbs ((a/b:Nat):Int)<2^62 by rw[Int.natAbs_natCast];exact aj (ad (Nat.div_le_self a b) ha) (by decide)),by rw[e1];exact(show Int.natAbs k<2^62 from aj (bN.mp (aW zk hM)) (by decide)),by rw[er,ak,ak];exact ad (aT (aT (ad (aG _ _) lz:pre.length≤50) 1) 2) (by decide)⟩,?_⟩
   show gw Cl z7 ts (z7 _ t) _
   rw[er]
   have r:=ih T.step (bJ (dM a hp)) (ad hb ha) (pre++[jB sg (a,k')]) ts (Nat.succ.inj h) (by rw[ak];rw[←da,Nat.add_right_comm]at lz;exact lz)
   rw[aQ pre [jB sg (a,k')] (jB sg (b,k)::jB sg (a%b,k'-(a/b:Nat)*k)::(eu f b (a%b) k (k'-(a/b:Nat)*k)).map (jB sg))]at r
   exact r
noncomputable def gT(ns:List Int):Nat:=bx (bX (eI ns))
noncomputable def kB(ns:List Int):Nat:=EQ (eI ns) 0 1
noncomputable def JF(ns:List Int):jM:=⟨mv ns,(kB ns:Int),(gT ns:Int)⟩
noncomputable def eC(ns:List Int):Int:=IB (gg ns)
noncomputable def kA(ns:List Int):List (den PI):=(ui (gT ns) (kB ns)).map (jB (eC ns))
theorem tW(ns:List Int):gT ns≤12252240:=by
 have key:((nP gK).all fun l=>bz (bx l) 12252240)=true:=by kernel_rfl
 exact aq (ay.mp key _ (iJ ns))
theorem py(ns:List Int):gT ns<2^62:=aj (tW ns) (by decide)
theorem mX(ns:List Int):0<gT ns:=qx fun x m=>by
 obtain⟨p,hp,rfl⟩:=aP.mp m
 exact(iL (lK hp)).n1
theorem jW(ns:List Int):L4 (eI ns) (kB ns):=HG (i9 (iJ ns))
theorem JJ(ns:List Int): ∀p∈jC,∀w,fo (gJ ns) [p.1]=some w→OK w:=fun p hp w e=>by
 obtain⟨j,hj,_,rfl⟩:=(ud ns hp w).mp e
 have R:=oK ns j (gy hj).1
 have W:=R.wd
 have d:=W.d (EA (uO (gy hj).2).2).1
 refine⟨W.l,d.2,?_⟩
 obtain⟨v,hv,_,_,e1,_⟩:=R.w
 rw[uR hj,e1]
 obtain⟨i,hi,rfl⟩:=aP.mp hv
 have:=cI.mp hi
 exact(aj (qB (b:=108) (aW (by decide) (Int.sub_le_sub_right (aK i) 34)) (aW (Int.sub_le_self _ (by decide)) (bN.mpr (bJ this)))) (by decide):Int.natAbs ((i:Int)-34)<2^20)
theorem Hh(ns:List Int): ∀p∈jC,FF (gJ ns) [p.1]:=fun p hp=>by
 have key:(jC.all fun p=>cond (asc [p.1]) (clean ([p.1].map f7)) false)=true:=by kernel_rfl
 obtain⟨k1,k2⟩:=ct (ay.mp key p hp)
 refine⟨ay.mpr fun q m=> ?_,k1,k2⟩
 obtain⟨j,hj,rfl⟩:=aP.mp m
 exact(yE (oK ns j (gy hj).1)).1
theorem HU(ns:List Int):gw (Cq (gJ ns) (eC ns)) (HV (gJ ns) (eC ns)) Gq ⟨[],0,1⟩ (JF ns):=by
 have r:=B8 (qp ns) (Hh ns) (JJ ns) jC (s:=⟨[],0,1⟩) (le:=0) (wh:=1) (fun M m=>m) rfl rfl (a9 _) (av _) (by decide+kernel) (by decide)
 rw[dR]at r
 exact r
theorem pd.nz{μ X:Int}{a b:Nat}{k' k:Int}(T:pd μ X a b k' k)(hb:(b:Int)<μ):k≠0:=fun z=>by
 cases T with |mk e c d he hc hd hk hk' det u v ra rb=>
 rw[z,Int.zero_mul,Int.sub_zero]at rb
 have b0:(b:Int)=0:=(Int.emod_eq_of_lt (aK b) hb).symm.trans (Int.emod_eq_zero_of_dvd ⟨u,rb⟩)
 rw[Int.natAbs_eq_zero.mp ((zZ he hk).symm.trans (z▸rfl)),b0,Int.mul_zero,Int.zero_mul]at det
 exact absurd hb (by rw[b0,←det];decide)
theorem EE{μ X:Int}(f:Nat){a b:Nat}{k' k:Int}(T:pd μ X a b k' k): ∀x∈eu f a b k' k,(x.2.natAbs:Int)≤μ∧((x.1:Int)<μ→x.2≠0):=
 EH (P:=fun b k=>(k.natAbs:Int)≤μ∧((b:Int)<μ→k≠0)) f T fun T h=>⟨pd.small T h,pd.nz T⟩
theorem tY(ns:List Int):kB ns<gT ns:=(jW ns).lt
theorem tX(ns:List Int):kB ns<2^62:=b8 (tY ns) (py ns)
theorem Kz{ns:List Int}{k:Int}(h:(k.natAbs:Int)≤gT ns):k.natAbs<2^62:=aj (bN.mp h) (py ns)
theorem uj(ns:List Int): ∀x∈ui (gT ns) (kB ns),(x.2.natAbs:Int)≤gT ns:=fun x m=>by
 have p:=mX ns
 cases m with
 |head=>exact aK _
 |tail _ m=>cases m with
  |head=>exact(bN.mpr p)
  |tail _ m=>exact(EE 38 (pd.start (gT ns) (kB ns)) x m).1
theorem Df(ns:List Int): ∀x∈(ui (gT ns) (kB ns)).tail,x.1<gT ns→x.2≠0:=fun x m h=>by
 cases m with
 |head=>exact Int.one_ne_zero
 |tail _ m=>exact(EE 38 (pd.start (gT ns) (kB ns)) x m).2 (bR.mpr h)
theorem E8(ns:List Int):vF (gJ ns) (eC ns) (JF ns) (kA ns):=by
 have hs:eC ns=1∨eC ns= -1:=qp ns
 have μ:=tW ns
 have R:=jW ns
 have l:=tY ns
 have n38:=EF 38 (a:=gT ns) (b:=kB ns) (k':=0) (k:=1)
 have l40:(iO 40).length=40:=rfl
 refine⟨HU ns,(ic hs).1,py ns,tX ns,?_⟩
 have r:=J5 hs (bN.mpr μ) 38 (pd.start (gT ns) (kB ns)) (bJ l) μ [] ((iO 40).take (eu 38 (gT ns) (kB ns) 0 1).length) (by rw[List.length_take,l40];exact Nat.min_eq_left (ad n38 (by decide))) (by rw[List.length_take,List.length_nil,cF,l40];exact ad (Nat.min_le_right _ _) (by decide))
 obtain⟨_,pre,k1,k2,e,_⟩:=uh (i9 (iJ ns)) R
 have eV:kA ns=pre.map (jB (eC ns))++[jB (eC ns) (bx (iV (eI ns)),k1),jB (eC ns) (0,k2)]:=by
  unfold kA gT
  rw[e,List.map_append]
  rfl
 have tl:=pX (pre.map (jB (eC ns))) (jB (eC ns) (bx (iV (eI ns)),k1)) (jB (eC ns) (0,k2))
 rw[←eV]at tl
 refine⟨?_,tl.1.1,tl.1.2,by rw[tl.2.2];exact beq_iff_eq.mpr (Int.mul_zero _)⟩
 obtain⟨x,post,ed⟩:=List.exists_cons_of_length_pos (l:=(iO 40).drop (eu 38 (gT ns) (kB ns) 0 1).length) (by rw[List.length_drop,l40];exact Nat.sub_pos_of_lt (aj n38 (by decide)))
 exact⟨_,x,post,by rw[←ed,List.take_append_drop],r⟩
noncomputable def Qv(z r:Nat):Bool:=cond (wK (Ai z (r:Int))==((fU z (r:Int):Nat):Int)) (dZ 0 (Ai z (r:Int)).length) false
noncomputable def Qu(z:Nat):Bool:=cond (kO ((z:Int)+1)) (cond (aY 1 ((z:Int)+1) 1) (cond ((uk (z:Int)).all kO) (cond (bz (uk (z:Int)).length 17) ((cX z).all (Qv z)) false) false) false) false
theorem Kq:(gK.all Qu)=true:=by kernel_rfl
theorem Ag(d g:Int)(z:Nat):(d*g)%(z:Int)=(d*(g%(z:Int)))%(z:Int):=by
 rw[Int.mul_emod,Int.mul_emod d (g%(z:Int)),Int.emod_emod_of_dvd _ (Int.dvd_refl _)]
theorem GX(z:Nat)(g:Int):Ai z g=Ai z (g%(z:Int)):=oh _ fun d M=>by
 unfold GY OC
 rw[b7 _ (aK z),b7 _ (aK z),Ag]
theorem qH(z:Nat)(g:Int): ∀f d,j7 z g f d=j7 z (g%(z:Int)) f d
 |0,_=>rfl
 |f+1,d=>by
  show cond (((d:Int)*g%(z:Int))==0) d (j7 z g f (d+1))=cond (((d:Int)*(g%(z:Int))%(z:Int))==0) d (j7 z (g%(z:Int)) f (d+1))
  rw[Ag,qH z g f (d+1)]
theorem IO{z:Nat}(h:z∈gK){g:Int}(hg:kO g=true):FA (z:Int) g∧wK (Ai z g)=((fU z g:Nat):Int):=by
 have Z:=iL h
 obtain⟨c1,c⟩:=ct (ay.mp Kq z h)
 obtain⟨c2,c⟩:=ct c
 obtain⟨c3,c⟩:=ct c
 obtain⟨c4,c⟩:=ct c
 have c4:=aq c4
 have z0:=Z.pos
 obtain⟨r,hr⟩:=cW (Int.emod_nonneg g (dg z0))
 have rz:r<z:=bR.mp (hr▸Int.emod_lt_of_pos g z0)
 obtain⟨d1,d2⟩:=ct (ay.mp c r (cI.mpr rz))
 have eL:Ai z g=Ai z (r:Int):=by rw[GX,hr]
 have eK:fU z g=fU z (r:Int):=by unfold fU;rw[qH,hr]
 have ll:(Ai z g).length≤17:=ad (eZ _ (fun d=>by unfold GY;induction OC z g d using ah with |false=>exact a9 1|true=>exact av 1) _) c4
 exact⟨⟨dg z0,c1,c2,fun d m=>ay.mp c3 d m,hg,ad c4 (by decide),ad ll (by decide),by rw[←show Ai z g=(uk (z:Int)).flatMap (GY z g)from rfl,eL];exact aq d2⟩,by rw[eL,eK];exact eq_of_beq d1⟩
theorem Al{z:Nat}(h:z∈gK)(g:Int):1≤fU z g∧fU z g≤17:=by
 have Z:=iL h
 have L:=jx (one:=z) Z.n1 g
 exact⟨L.pos,ad L.le Z.b⟩
theorem C4{x:Int}(h:x.natAbs<2^62):kO x=true:=a8 h
theorem td{m a n:Nat}(ha:a≤17)(h:m*17^(n+1)≤2^60):m*a*17^n≤2^60∧m≤2^60:=by
 rw[Nat.pow_succ,Nat.mul_comm (17^n),←Nat.mul_assoc]at h
 exact⟨ad (dE _ (bj m ha)) h,ad (ad (cy m (by decide)) (cy (m*17) (Nat.pow_pos (n:=n) (by decide:0<17)))) h⟩
theorem Ly(l:Sh): ∀{m:Nat},(∀p∈l,p.1∈gK∧kO p.2=true)→m*17^l.length≤2^60→gw Cp I8 (l.map mq) (m:Int) ((m*bx (iV l):Nat):Int):=by
 induction l with
 |nil=>exact fun{m} M M=>congrArg Int.ofNat (Nat.mul_one m).symm
 |cons p l ih=>
  intro m h hz
  obtain⟨h1,h2⟩:=h p (.head _)
  obtain⟨L,e⟩:=IO h1 h2
  have b:=Al h1 p.2
  have Z:=iL h1
  have q17:p.1/fU p.1 p.2≤17:=ad (Nat.div_le_self _ _) Z.b
  have st:=td (n:=l.length) q17 hz
  have ek:IP (mq p)=((fU p.1 p.2:Nat):Int):=e
  have ed:(mq p).1.fdiv (IP (mq p))=((p.1/fU p.1 p.2:Nat):Int):=by rw[ek];exact gO _ _
  refine⟨⟨L,⟨by rw[ek];exact dg (dy.mpr b.1),Z.s,by rw[ek,Int.natAbs_natCast];exact aj b.2 (by decide)⟩,⟨aj st.2 (by decide),by rw[ed];exact(show Int.natAbs ((p.1/fU p.1 p.2:Nat):Int)<2^62 by rw[Int.natAbs_natCast];exact aj q17 (by decide))⟩⟩,?_⟩
  have r:=ih (m:=m*(p.1/fU p.1 p.2)) (fun x m=>h x (.tail _ m)) st.1
  show gw Cp I8 (l.map mq) ((m:Int)*(mq p).1.fdiv (IP (mq p))) ((m*(p.1/fU p.1 p.2*bx (iV l)):Nat):Int)
  rw[ed,←Nat.mul_assoc]
  exact r
theorem Kw{sg o:Int}(hs:aH sg∧aH o)(l:Sh): ∀{m:Nat},(∀p∈l,p.1∈gK∧kO (p.2-sg*o)=true)→m*17^l.length≤2^60→gw (FE sg o) (Kx sg o) (l.map mq) (m:Int) ((m*bx (fY l (sg*o)):Nat):Int):=by
 induction l with
 |nil=>exact fun{m} M M=>congrArg Int.ofNat (Nat.mul_one m).symm
 |cons p l ih=>
  intro m h hz
  obtain⟨h1,h2⟩:=h p (.head _)
  obtain⟨L,e⟩:=IO h1 h2
  have b:=Al h1 (p.2-sg*o)
  have st:=td (n:=l.length) b.2 hz
  have ek:MW sg o (mq p)=((fU p.1 (p.2-sg*o):Nat):Int):=e
  refine⟨⟨hs,L,⟨aj st.2 (by decide),by rw[ek];exact(show Int.natAbs ((fU p.1 (p.2-sg*o):Nat):Int)<2^62 by rw[Int.natAbs_natCast];exact aj b.2 (by decide))⟩⟩,?_⟩
  have r:=ih (m:=m*fU p.1 (p.2-sg*o)) (fun x m=>h x (.tail _ m)) st.1
  show gw (FE sg o) (Kx sg o) (l.map mq) ((m:Int)*MW sg o (mq p)) ((m*(fU p.1 (p.2-sg*o)*bx (fY l (sg*o))):Nat):Int)
  rw[ek,←Nat.mul_assoc]
  exact r
noncomputable def vR(l:List Nat):List Int:=l.map fun x:Nat=>(x:Int)
noncomputable def MX(l:List Nat)(L:List Int):Bool:=cD false (fun s=>cD false (fun t=>cond (t.limit==(((lim l).1:Nat):Int)) (cond (t.bound==(((lim l).2:Nat):Int)) (cond (bz (mZ L).length 20) (bz (iB L).length 20) false) false) false) (gL (DL L) (Kp L) (iO (iB L).length) s)) (gL GW LU L ⟨1,1,0,0⟩)
noncomputable def MY(l:List Nat):Bool:=MX l (vR l)
theorem GZ:((nP gK).all MY)=true:=by kernel_rfl
theorem Kr{l:List Nat}(h:l∈nP gK)(h9:l.length≤9): ∃s t,FB (vR l) s t∧t.limit=(((lim l).1:Nat):Int)∧t.bound=(((lim l).2:Nat):Int):=by
 have k:=ay.mp GZ l h
 unfold MY MX at k
 induction e1:gL GW LU (vR l) ⟨1,1,0,0⟩using aw with
 |none=>rw[e1]at k;exact bh k
 |some s=>
  rw[e1]at k
  have k:cD false (fun t:zH=>cond (t.limit==(((lim l).1:Nat):Int)) (cond (t.bound==(((lim l).2:Nat):Int)) (cond (bz (mZ (vR l)).length 20) (bz (iB (vR l)).length 20) false) false) false) (gL (DL (vR l)) (Kp (vR l)) (iO (iB (vR l)).length) s)=true:=k
  induction e2:gL (DL (vR l)) (Kp (vR l)) (iO (iB (vR l)).length) s using aw with
  |none=>rw[e2]at k;exact bh k
  |some t=>
   rw[e2]at k
   refine(ct k).elim fun k1 k=> ?_
   refine(ct k).elim fun k2 k=> ?_
   obtain⟨k3,k4⟩:=ct k
   exact⟨s,t,⟨e1,e2,by unfold vR;rw[aE];exact aj h9 (by decide),ad (aq k3) (by decide),ad (aq k4) (by decide)⟩,eq_of_beq k1,eq_of_beq k2⟩
noncomputable def mw(ns:List Int):vA:=⟨kC ns,gF ns,jO ns,jO ns,gJ ns,mv ns,JF ns,kA ns⟩
noncomputable def yd(ns:List Int):Nat:=bx (iV (eI ns))
theorem vV(ns:List Int):(eI ns).length≤7:=List.length_filterMap_le (f:=ue (gJ ns)) (l:=jC)
theorem CQ(ns:List Int): ∀p∈eI ns,p.1∈gK∧kO p.2=true:=fun p h=>⟨lK h,by have:=qb h;exact C4 (aj (qB (b:=73) (aW (by decide) this.1) this.2) (by decide))⟩
theorem Aa(ns:List Int):1*17^(eI ns).length≤2^60:=by rw[dR];exact ad (Nat.pow_le_pow_right (by decide) (vV ns)) (by decide)
theorem N4(ns:List Int):gw Cp I8 (mv ns) 1 (yd ns:Int):=by
 have r:=Ly (eI ns) (m:=1) (CQ ns) (Aa ns)
 rw[dR]at r
 exact r
theorem lG(x:Int):oq x=(x.natAbs:Int):=by
 unfold oq
 by_cases h:x<0
 ·rw[if_pos h,Int.ofNat_natAbs_of_nonpos (cn h)]
 ·rw[if_neg h,Int.natAbs_of_nonneg (dh.mp h)]
theorem Gh(ns:List Int):yd ns≤gT ns:=by
 unfold yd
 rw[tH (fun p m=>ad (by decide) (iL (lK m)).b5) (i9 (iJ ns)).co (jW ns).eq]
 exact Nat.gcd_le_left _ (mX ns)
theorem KP(ns:List Int):LK (mw ns) (yd ns:Int):=by
 have hs:eC ns=1∨eC ns= -1:=qp ns
 have O:=Gh ns
 obtain⟨ra,pre,k1,k2,e,ek⟩:=uh (i9 (iJ ns)) (jW ns)
 have eV:kA ns=pre.map (jB (eC ns))++[jB (eC ns) (yd ns,k1),jB (eC ns) (0,k2)]:=by
  unfold kA gT
  rw[e,List.map_append]
  rfl
 have tl:=pX (pre.map (jB (eC ns))) (jB (eC ns) (yd ns,k1)) (jB (eC ns) (0,k2))
 rw[←eV]at tl
 have kb:=uj ns (0,k2) (by show(0,k2)∈ui (bx (bX (eI ns))) (kB ns);rw[e];exact dl _ (.tail _ (.head _)))
 have kb:(k2.natAbs:Int)≤gT ns:=kb
 refine⟨rfl,ay.mpr fun M M=>rfl,tl.1.1,tl.1.2,?_,?_,?_,?_⟩
 ·rw[show kR (mw ns).U (-2)=_ from tl.2.1,lG]
  exact congrArg Int.ofNat (mB hs (yd ns))
 ·rw[show kR (mw ns).U (-1)=_ from tl.2.2]
  exact Int.mul_zero _
 ·rw[show kR (mw ns).U (-1)=_ from tl.2.2,lG]
  exact⟨Kz kb,aj O (py ns)⟩
 ·rw[show kR (mw ns).U (-1)=_ from tl.2.2,lG]
  exact congrArg Int.ofNat ek
theorem Gz(ns:List Int): ∀p∈kA ns,Ih (mw ns) p:=fun p hp=>by
 have hs:eC ns=1∨eC ns= -1:=qp ns
 have M1:=mX ns
 obtain⟨x,hx,rfl⟩:=aP.mp hp
 have kb:=uj ns x hx
 have dv:=(uh (i9 (iJ ns)) (jW ns)).1 x hx
 have ab:(x.2*eC ns).natAbs=x.2.natAbs:=by rw[dO];exact qq hs _
 refine⟨⟨Kz kb,(ic hs).1⟩,⟨aj (aC ab) (Kz kb),tX ns⟩,dg (dy.mpr M1),?_⟩
 show(x.2*eC ns*(kB ns:Int)-eC ns*(x.1:Int)).fmod (gT ns:Int)=0
 rw[b7 _ (aK _),dO x.2,db,←Int.mul_sub]
 exact Int.emod_eq_zero_of_dvd (dJ dv (Int.dvd_mul_left _ _))
theorem vT(ns:List Int):(kA ns).length≤40:=by
 unfold kA
 rw[aE]
 exact cM (cM (EF 38))
theorem Ke(ns:List Int):LR (mv ns)=vR (bX (eI ns)):=by
 unfold LR mv vR bX
 rw[show MN=fun p=>[p.1]from rfl,qW,List.map_map,List.map_map]
 rfl
theorem GK(n:Nat)(l:Sh):(yA (l.map mq) (n:Int)).length=(fA l (n:Int)).length:=by
 unfold fA
 rw[aE]
 induction l with
 |nil=>rfl
 |cons p l ih=>
  show(cond (ur ((p.2-(n:Int)).fmod (p.1:Int)) 0) [1] []++yA (l.map mq) (n:Int)).length=_
  rw[List.filter_cons,ak,ih]
  unfold ur
  rw[b7 _ (aK p.1)]
  induction ((p.2-(n:Int))%(p.1:Int)==0)using ah with
  |false=>exact bK _ _
  |true=>exact cF _
theorem AW(a b:Nat):decide ((a:Int)≤(b:Int))=bz a b:=by
 by_cases h:a≤b
 ·rw[decide_eq_true (bN.mpr h),a8 h]
 ·rw[decide_eq_false (fun z=>h (bN.mp z)),dj.mpr (fun z=>h (aq z))]
theorem uP(ns:List Int):fZ (mv ns) (((lim (bX (eI ns))).1:Nat):Int)=vR (qX (eI ns)):=by
 have e:fZ (mv ns) (((lim (bX (eI ns))).1:Nat):Int)=(iO 24).filter (AB (mv ns) (((lim (bX (eI ns))).1:Nat):Int)):=jz _ _
 have e2:iO 24=(cX 24).map fun x:Nat=>(x:Int):=by kernel_rfl
 rw[e,e2,List.filter_map]
 unfold vR qX
 refine congrArg _ (List.filter_congr fun n M=> ?_)
 show decide (((yA ((eI ns).map mq) (n:Int)).length:Int)≤_)=_
 rw[GK,AW]
noncomputable def QD(μ:Nat):Bool:=(cX μ).all fun X=>cond (aY X 24 μ) (cond (bz (eR (X:Int) μ (fk X 24 μ)).length 30) (vR ((cX 24).filter fun n=>aS (n%μ) X)==eR (X:Int) μ (fk X 24 μ)) false) false
theorem LC:((cX 47).all QD)=true:=by kernel_rfl
theorem KO(ns:List Int)(h0:(lim (bX (eI ns))).2=0):LJ (mw ns) (((lim (bX (eI ns))).1:Nat):Int):=by
 have R:=jW ns
 obtain⟨m46,ef⟩:=DE (i9 (iJ ns)) R h0
 have M1:=mX ns
 have K:=tY ns
 have m46:gT ns≤46:=m46
 obtain⟨c1,c⟩:=ct (ay.mp (ay.mp LC (gT ns) (cI.mpr (Nat.lt_succ_of_le m46))) (kB ns) (cI.mpr K))
 obtain⟨c2,c3⟩:=ct c
 refine⟨tX ns,⟨aj m46 (by decide),dg (dy.mpr M1)⟩,c1,ad (aq c2) (by decide),?_⟩
 rw[show(mw ns).S=mv ns from rfl,uP,ef]
 exact eq_of_beq c3
theorem JE(x:den PI)(l:List (den PI)):CP (x::l)=l:=by
 unfold CP jG
 have e:clipAt (x::l).length 1=1:=by
  unfold clipAt
  rw[if_neg (by decide: ¬(1:Int)<0),b4,Int.min_eq_left (a:=1) (bN.mpr (c9 1 _))]
  rfl
 rw[e]
 show l.take (l.length+1-1)=l
 exact List.take_length
theorem Dy(x:Int):wB x=true↔¬(0≤x∧x<24):=by
 unfold wB Builtin.Range.rangePlace?
 rw[if_pos (by decide:(1:Int)>0),Int.emod_one]
 show(!(if(decide (0≤x)&&decide (x<24)&&true)=true then some ((x-0)/1)else none).isSome)=true↔_
 rw[Bool.and_true]
 by_cases h:0≤x∧x<24
 ·rw[decide_eq_true h.1,decide_eq_true h.2]
  exact⟨fun z=>bh z,fun z=>absurd h z⟩
 ·refine⟨fun M=>h,fun M=> ?_⟩
  rw[if_neg (fun z=>h (by have z:=aM.mp z;exact⟨of_decide_eq_true z.1,of_decide_eq_true z.2⟩))]
  rfl
theorem Fh{S:Sh}(h:ki S)(h0:(lim (bX S)).2≠0):(lim (bX S)).2<bx (bX S):=by
 refine h.lim.elim (fun z=>absurd z.1 h0) fun z=>z.elim fun most z=> ?_
 rw[z.1]
 exact aj (Nat.mul_le_mul (by decide) (cy most z.2.1)) z.2.2.1
theorem Im{sg o:Int}(hs:sg=1∨sg= -1)(ho:o.natAbs≤12252240){p:Nat×Int}(hz:p.1∈gK)(hv: -34≤p.2∧p.2≤73):Ib sg o (mq p)∧(Cz sg o (mq p)).2=(p.2-sg*o)%(p.1:Int):=by
 have Z:=iL hz
 have d:=AI (a:=p.2-sg*o) (b:=(p.1:Int)) (aj (Eo hv (ad (aC (qq hs o)) ho)) (by decide)) (dg (dy.mpr (ad (by decide) Z.b5))) (aj Z.b (by decide))
 have ev:Cz sg o (mq p)=((p.2-sg*o).fdiv (p.1:Int),(p.2-sg*o).fmod (p.1:Int)):=by
  show(uH (p.2-sg*o) (p.1:Int) 3).getD (0,0)=_
  rw[d.e]
  rfl
 refine⟨⟨⟨(ic hs).1,aj ho (by decide)⟩,?_⟩,?_⟩
 ·rw[ev];exact d.e
 ·rw[ev];exact b7 _ (aK _)
theorem Jq{sg o:Int}(hs:sg=1∨sg= -1)(ho:o.natAbs≤12252240)(l:Sh)(h: ∀p∈l,p.1∈gK∧(-34≤p.2∧p.2≤73)):(FW (l.map mq) sg o).length=(fA l (sg*o)).length:=by
 unfold fA
 rw[aE]
 induction l with
 |nil=>rfl
 |cons p l ih=>
  have e:=(Im hs ho (h p (.head _)).1 (h p (.head _)).2).2
  show(cond (ur (Cz sg o (mq p)).2 0) [(mq p).1] []++FW (l.map mq) sg o).length=_
  rw[List.filter_cons,ak,ih fun x m=>h x (.tail _ m),e]
  unfold ur
  induction ((p.2-sg*o)%(p.1:Int)==0)using ah with
  |false=>exact bK _ _
  |true=>exact cF _
theorem H5{sg o r:Int}(hs:sg=1∨sg= -1)(ho:o.natAbs≤12252240)(l:Sh)(h: ∀p∈l,p.1∈gK∧(-34≤p.2∧p.2≤73))(lm:Nat):
  zt (l.map mq) sg (lm:Int) (o,r)=true↔¬(r=0∧0≤sg*o∧sg*o<24∧(fA l (sg*o)).length≤lm):=by
 have hm:wR (FW (l.map mq) sg o) (lm:Int)=true↔¬(fA l (sg*o)).length≤lm:=by
  unfold wR
  rw[Jq hs ho l h]
  exact⟨fun z y=>absurd (bR.mp (of_decide_eq_true z)) (bY.mpr y),fun z=>decide_eq_true (bR.mpr (Nat.not_le.mp z))⟩
 show cond (ur r 0) true (cond (wB (sg*o)) true (wR (FW (l.map mq) sg o) (lm:Int)))=true↔_
 by_cases z:r=0
 ·rw[ld z]
  show cond (wB (sg*o)) true (wR (FW (l.map mq) sg o) (lm:Int))=true↔_
  induction q:wB (sg*o)using ah with
  |true=>exact⟨fun M y=>(Dy _).mp q ⟨y.2.1,y.2.2.1⟩,fun M=>rfl⟩
  |false=>
   have q:=Classical.not_not.mp (mt (Dy (sg*o)).mpr (by rw[q];exact bh))
   exact⟨fun y w=>hm.mp y w.2.2.2,fun y=>hm.mpr fun w=>y ⟨z,q.1,q.2,w⟩⟩
 ·have e:ur r 0=true:=by unfold ur;rw[beq_eq_false_iff_ne.mpr z];rfl
  rw[e]
  exact⟨fun M y=>z y.1,fun M=>rfl⟩
theorem LE(ns:List Int)(h0:(lim (bX (eI ns))).2≠0): ∃p v y,Jm (mw ns) (((lim (bX (eI ns))).1:Nat):Int) (((lim (bX (eI ns))).2:Nat):Int) p v y:=by
 have hs:eC ns=1∨eC ns= -1:=qp ns
 have So:=i9 (iJ ns)
 have μ:=tW ns
 have bl:(lim (bX (eI ns))).2<gT ns:=Fh So h0
 refine(xT So (jW ns) h0).elim fun b zz=>zz.elim fun k zz=>zz.elim fun ef hf=> ?_
 have ef:((ui (gT ns) (kB ns)).tail.find? fun x=>bz x.1 (lim (bX (eI ns))).2)=some (b,k):=ef
 have hb:b≤(lim (bX (eI ns))).2:=aq (List.find?_some (p:=fun x:Nat×Int=>bz x.1 (lim (bX (eI ns))).2) (a:=(b,k)) ef)
 have hm:=List.mem_of_find?_eq_some ef
 have k0:k≠0:=Df ns (b,k) hm (aj hb bl)
 have kb:(k.natAbs:Int)≤gT ns:=uj ns (b,k) (List.mem_of_mem_tail hm)
 have bM:=ad (bJ (aj hb bl)) μ
 have dv:=AI (a:=eC ns*(b:Int)) (b:=k) (by rw[mB hs];exact aj bM (by decide)) k0 (aj (ad (bN.mp kb) μ) (by decide))
 have ob:((eC ns*(b:Int)).fdiv k).natAbs≤12252240:=by
  have:=Int.natAbs_fdiv_le_natAbs (eC ns*(b:Int)) k
  rw[mB hs]at this
  exact ad this bM
 have bw: ∀p∈eI ns,p.1∈gK∧(-34≤p.2∧p.2≤73):=fun p m=>⟨lK m,qb m⟩
 have tl:CP (kA ns)=(ui (gT ns) (kB ns)).tail.map (jB (eC ns)):=JE _ _
 have sh:(l5 (kA ns) (((lim (bX (eI ns))).2:Nat):Int)).head?=some (eC ns*(b:Int),k):=by
  have e:l5 (kA ns) (((lim (bX (eI ns))).2:Nat):Int)=(CP (kA ns)).filter fun p=>decide (oq p.1≤(((lim (bX (eI ns))).2:Nat):Int)):=jz _ _
  have ep:((fun p:den PI=>decide (oq p.1≤(((lim (bX (eI ns))).2:Nat):Int)))∘jB (eC ns))=fun x:Nat×Int=>bz x.1 (lim (bX (eI ns))).2:=funext fun x=>by
   show decide (oq (eC ns*(x.1:Int))≤_)=_
   rw[lG,mB hs]
   exact AW _ _
  rw[e,tl,List.head?_filter,List.find?_map,ep,ef]
  rfl
 obtain⟨L,eL⟩: ∃L,l5 (kA ns) (((lim (bX (eI ns))).2:Nat):Int)=(eC ns*(b:Int),k)::L:=by
  revert sh
  generalize l5 (kA ns) (((lim (bX (eI ns))).2:Nat):Int)=X
  intro sh
  cases X with
  |nil=>exact nomatch sh
  |cons x X=>exact⟨X,congrArg (· ::X) (af sh)⟩
 refine⟨(eC ns*(b:Int),k),((eC ns*(b:Int)).fdiv k,(eC ns*(b:Int)).fmod k),((bx (fY (eI ns) (eC ns*(eC ns*(b:Int)).fdiv k)):Nat):Int),?_,?_,?_,dv.e,?_,?_,⟨(ic hs).1,aj ob (by decide)⟩,?_⟩
 ·rw[show CP (mw ns).U=_ from tl,aE,List.length_tail]
  have:=vT ns
  unfold kA at this
  rw[aE]at this
  exact ad (Nat.sub_le _ 1) (ad this (by decide))
 ·rw[show(mw ns).U=kA ns from rfl,eL];exact M7
 ·rw[show(mw ns).U=kA ns from rfl,eL];exact tC
 ·intro q m
  obtain⟨p,hp,rfl⟩:=aP.mp m
  exact(Im hs ob (bw p hp).1 (bw p hp).2).1
 ·have r:=Kw (sg:=eC ns) (o:=(eC ns*(b:Int)).fdiv k) ⟨(ic hs).1,aj ob (by decide)⟩ (eI ns) (m:=1) (fun p m=>⟨lK m,C4 (by
   have v:=qb m
   exact aj (Eo v (ad (aC (qq hs _)) ob)) (by decide))⟩) (Aa ns)
  rw[dR]at r
  exact r
 ·refine(ON So hs hf (often:=(eC ns*(b:Int)).fdiv k) (rest:=(eC ns*(b:Int)).fmod k) rfl rfl).elim fun t1 t2=> ?_
  have bi:=H5 (r:=(eC ns*(b:Int)).fmod k) hs ob (eI ns) bw (lim (bX (eI ns))).1
  by_cases P:(eC ns*(b:Int)).fmod k=0∧0≤eC ns*(eC ns*(b:Int)).fdiv k∧eC ns*(eC ns*(b:Int)).fdiv k<24∧(fA (eI ns) (eC ns*(eC ns*(b:Int)).fdiv k)).length≤(lim (bX (eI ns))).1
  ·refine(t1 P).elim fun e1 e2=> ?_
   refine .inr ⟨dj.mpr fun z=>bi.mp z P,?_,?_⟩
   ·rw[show(mw ns).S=mv ns from rfl,uP,e1]
    exact congrArg (fun x=>[x]) (Int.toNat_of_nonneg P.2.1)
   ·rw[lG,e2]
    exact beq_self_eq_true _
  ·refine .inl ⟨bi.mpr P,?_⟩
   rw[show(mw ns).S=mv ns from rfl,uP,t2 P]
   rfl
theorem Ku{n:Nat}{ns:List Int}:gn (C3 (n+15) 339 [.lst .int ns] []) (.bool true) []:=by
 refine(Kr (iJ ns) (by rw[show(bX (eI ns)).length=(eI ns).length from aE ..];exact ad (vV ns) (by decide))).elim fun s zz=>zz.elim fun t zz=>zz.elim fun L zz=>zz.elim fun e1 e2=> ?_
 rw[←Ke]at L
 have ed:FG (mw ns) t.limit t.bound:=by
  rw[e1,e2]
  by_cases h0:(lim (bX (eI ns))).2=0
  ·exact .inl ⟨by rw[h0];rfl,KO ns h0⟩
  ·exact .inr ⟨beq_eq_false_iff_ne.mpr fun e=>h0 (Int.ofNat.inj e),LE ns h0⟩
 exact Pr ⟨fun k m=>by obtain⟨j,hj,rfl⟩:=JG m;exact⟨(zf hj).1,iS hj⟩,fun k m=>(lM ns k m).2,JL ns,fun r m=>(zR r m).fx,Me,ad (vS ns) (by decide),MI ns,ID ns,M5 ns,KQ ns,Mn ns,Iw ns,fun p m=>by
  obtain⟨q,hq,rfl⟩:=aP.mp m
  have:=(iL (lK hq)).b5
  exact(dg (dy.mpr (ad (by decide) this)):(q.1:Int)≠0),E8 ns,N4 ns,KP ns,Gz ns,ad (vT ns) (by decide),L,ed⟩
end Mini.Internal
end
end
open PySem PySem.W PySem.Spec PySem.Calls PyProof.Rows
set_option Elab.async false
set_option linter.unusedVariables false
set_option maxRecDepth 100000
set_option maxHeartbeats 8000000
noncomputable section
namespace Mini.Internal
namespace cwh
theorem tw16960111726172325188:0=0:=rfl
theorem tw3759541675699966927:0=0:=rfl
theorem tw17744523981602717996:0=0:=rfl
theorem tw14911721798378651047:0=0:=rfl
theorem tw3011643361117237483:0=0:=rfl
theorem tw11475326103309389158:0=0:=rfl
theorem tw10144785612028445192:0=0:=rfl
theorem tw18387660601703996036:0=0:=rfl
theorem tw8446952724223186265:0=0:=rfl
theorem tw3928268364193275901:0=0:=rfl
theorem tw9963816977784773234:0=0:=rfl
theorem tw1197345371478462203:0=0:=rfl
theorem tw3005825346538090781:0=0:=rfl
theorem tw12010852453650872709:0=0:=rfl
theorem tw10140083493472642601:0=0:=rfl
theorem tw16362251523903383254:0=0:=rfl
theorem tw606303913540043349:0=0:=rfl
theorem tw16420305399514807064:0=0:=rfl
theorem tw2343618536205984626:0=0:=rfl
theorem tw1403250009450317059:0=0:=rfl
theorem tw8062261794920270910:0=0:=rfl
theorem tw1561503322301698564:0=0:=rfl
theorem tw6367883960230971440:0=0:=rfl
theorem tw5865411417151086094:0=0:=rfl
theorem tw1378327082825478976:0=0:=rfl
theorem tw12556983341810552277:0=0:=rfl
theorem tw8568534690351106595:0=0:=rfl
theorem tw13985899238533592292:0=0:=rfl
theorem tw14044284038096171928:0=0:=rfl
theorem tw2168089252972708912:0=0:=rfl
theorem tw12925850409850808157:0=0:=rfl
theorem tw13619402613166180278:0=0:=rfl
theorem tw8121251054223311242:0=0:=rfl
theorem tw15025231252040851174:0=0:=rfl
theorem tw13904753204609631091:0=0:=rfl
theorem tw14845612709963749874:0=0:=rfl
theorem tw2616398459753751214:0=0:=rfl
theorem tw6050127780553214436:0=0:=rfl
theorem tw4321534617734000246:0=0:=rfl
theorem tw1974278814148508473:0=0:=rfl
theorem tw4731225324884552093:0=0:=rfl
theorem tw8091894011955800080:0=0:=rfl
theorem tw13996013372315154206:0=0:=rfl
theorem tw16181077963487029568:0=0:=rfl
theorem tw11386032250423405914:0=0:=rfl
theorem tw15030788487555224890:0=0:=rfl
theorem tw10908298808283548958:0=0:=rfl
theorem tw4319919267840223297:0=0:=rfl
theorem tw12473301478464002685:0=0:=rfl
theorem tw3729725050962648255:0=0:=rfl
theorem tw2884396228714007826:0=0:=rfl
theorem tw18130824462268840941:0=0:=rfl
theorem tw16703128855740974594:0=0:=rfl
theorem tw15710285098273976188:0=0:=rfl
theorem tw5675287071678642645:0=0:=rfl
theorem tw7345480544099018734:0=0:=rfl
theorem tw511000073696861276:0=0:=rfl
theorem tw15047527875896672319:0=0:=rfl
theorem tw17362601754669015452:0=0:=rfl
theorem tw16974723404978533946:0=0:=rfl
theorem tw3900780231952869074:0=0:=rfl
theorem tw5612027312336157899:0=0:=rfl
theorem tw11623906719884012049:0=0:=rfl
theorem tw269820689051251050:0=0:=rfl
theorem tw1591051571061609763:0=0:=rfl
theorem tw12029124906502406414:0=0:=rfl
theorem tw6716935163128311142:0=0:=rfl
theorem tw10229721872769174875:0=0:=rfl
theorem tw3752295276384353370:0=0:=rfl
theorem tw5456160962351464546:0=0:=rfl
theorem tw9463878744449029671:0=0:=rfl
theorem tw2450785929497663401:0=0:=rfl
theorem tw3812468497955663429:0=0:=rfl
theorem tw15213628116950673558:0=0:=rfl
theorem tw12867041691022288540:0=0:=rfl
theorem tw14652933696757498772:0=0:=rfl
theorem tw13494346887527691422:0=0:=rfl
theorem tw13609686623269028747:0=0:=rfl
theorem tw16645327745366506982:0=0:=rfl
theorem tw1426553760457443082:0=0:=rfl
theorem tw10158039196264500867:0=0:=rfl
theorem tw13681858404940332853:0=0:=rfl
theorem tw3063210601596031371:0=0:=rfl
theorem tw13608479084381438113:0=0:=rfl
theorem tw7342575415002785655:0=0:=rfl
theorem tw13790633292632272320:0=0:=rfl
theorem tw9120266005561286570:0=0:=rfl
theorem tw7558221263170030153:0=0:=rfl
theorem tw2056917795210681398:0=0:=rfl
theorem tw8541766837068902030:0=0:=rfl
theorem tw14970709773976726701:0=0:=rfl
theorem tw5649709199111932067:0=0:=rfl
theorem tw15856014702189976877:0=0:=rfl
theorem tw3576244732899699648:0=0:=rfl
theorem tw17718877442784012623:0=0:=rfl
theorem tw4125034604323292482:0=0:=rfl
theorem tw17463142911195473584:0=0:=rfl
theorem tw15720552657118056413:0=0:=rfl
theorem tw8169089517201418500:0=0:=rfl
theorem tw16061635924655005006:0=0:=rfl
theorem tw4585624639165192661:0=0:=rfl
theorem tw7122645359995748375:0=0:=rfl
theorem tw7814497500525274512:0=0:=rfl
theorem tw15137240456927552783:0=0:=rfl
theorem tw1447311835696338184:0=0:=rfl
theorem tw13861914515554103541:0=0:=rfl
theorem tw5224703759171957806:0=0:=rfl
theorem tw1733576024473124044:0=0:=rfl
theorem tw6887180988099209269:0=0:=rfl
theorem tw9754157615079603698:0=0:=rfl
theorem tw11977120721046752978:0=0:=rfl
theorem tw2704804047026910140:0=0:=rfl
theorem tw15981791629527079751:0=0:=rfl
theorem tw9093680136219737501:0=0:=rfl
theorem tw8448648277904442367:0=0:=rfl
theorem tw3960266414358650541:0=0:=rfl
theorem tw7236385149662651261:0=0:=rfl
theorem tw5220966840944785840:0=0:=rfl
theorem tw18402999017418990252:0=0:=rfl
theorem tw5480977274888839267:0=0:=rfl
theorem tw14290461482745668761:0=0:=rfl
theorem tw13638471123226652773:0=0:=rfl
theorem tw14403215649403252732:0=0:=rfl
theorem tw12996315853498464574:0=0:=rfl
theorem tw1464786196497931132:0=0:=rfl
theorem tw12987996797227785958:0=0:=rfl
theorem tw4185156171169092602:0=0:=rfl
theorem tw2661328867616852721:0=0:=rfl
theorem tw4341064745887690335:0=0:=rfl
theorem tw14795870517705274446:0=0:=rfl
theorem tw972593911749451722:0=0:=rfl
theorem tw1291839295845277281:0=0:=rfl
theorem tw12508158730245123024:0=0:=rfl
theorem tw18283567265198712996:0=0:=rfl
theorem tw11393903369804422481:0=0:=rfl
theorem tw10700953394890246339:0=0:=rfl
theorem tw9017922357758670101:0=0:=rfl
theorem tw11718751271377011576:0=0:=rfl
theorem tw1200361079831249579:0=0:=rfl
theorem tw8367984155999955671:0=0:=rfl
theorem tw13746824071945495582:0=0:=rfl
theorem tw3356816151679988571:0=0:=rfl
theorem tw18424254935933889062:0=0:=rfl
theorem tw927096330995237357:0=0:=rfl
theorem tw4159527771705800850:0=0:=rfl
theorem tw4839559233746660079:0=0:=rfl
theorem tw10637947660677933299:0=0:=rfl
theorem tw16956861709249967935:0=0:=rfl
theorem tw354834927807393073:0=0:=rfl
theorem tw17886023232504727580:0=0:=rfl
theorem tw4701261791389116623:0=0:=rfl
theorem tw9874318206149754973:0=0:=rfl
theorem tw17851866475602190805:0=0:=rfl
theorem tw4310905564354031222:0=0:=rfl
theorem tw13471316496735603383:0=0:=rfl
theorem tw17027529865346511432:0=0:=rfl
theorem tw12987876068528815297:0=0:=rfl
theorem tw5745836178066942774:0=0:=rfl
theorem tw13147691979932111823:0=0:=rfl
theorem tw2549659893831379690:0=0:=rfl
theorem tw16962016008615695974:0=0:=rfl
theorem tw13621513253646567710:0=0:=rfl
theorem tw5956085174430671950:0=0:=rfl
theorem tw14298801651519750102:0=0:=rfl
theorem tw15164887766536139740:0=0:=rfl
theorem tw6750843950230293211:0=0:=rfl
theorem tw268973111496619849:0=0:=rfl
theorem tw878921937431338503:0=0:=rfl
theorem tw9672767212037390655:0=0:=rfl
theorem tw14477016188878569707:0=0:=rfl
theorem tw1273880622982739692:0=0:=rfl
theorem tw8442829984349034361:0=0:=rfl
theorem tw8916299259858218097:0=0:=rfl
theorem tw3738879507858177400:0=0:=rfl
theorem tw348174603181429681:0=0:=rfl
theorem tw12825558023251099124:0=0:=rfl
theorem tw11067419520818693843:0=0:=rfl
theorem tw12082130627906497851:0=0:=rfl
theorem tw1352482991628016855:0=0:=rfl
theorem tw12898924380541228855:0=0:=rfl
theorem tw9144216830567307969:0=0:=rfl
theorem tw2373299731544352794:0=0:=rfl
theorem tw3248898405015819626:0=0:=rfl
theorem tw18179559629168601767:0=0:=rfl
theorem tw8456164511610959582:0=0:=rfl
theorem tw15212846805546619402:0=0:=rfl
theorem tw17982818840028784312:0=0:=rfl
theorem tw8044234255703698770:0=0:=rfl
theorem tw8438061937039186862:0=0:=rfl
theorem tw15295783643344773503:0=0:=rfl
theorem tw13786570565541572650:0=0:=rfl
theorem tw17751539550705712482:0=0:=rfl
theorem tw12241076221452781648:0=0:=rfl
theorem tw7781747985746401408:0=0:=rfl
theorem tw2038868208521322268:0=0:=rfl
theorem tw13709606956894408953:0=0:=rfl
theorem tw10426722382848671840:0=0:=rfl
theorem tw9660228409748407225:0=0:=rfl
theorem tw14675723390372295830:0=0:=rfl
theorem tw9111176999079130146:0=0:=rfl
theorem tw15028220867121766439:0=0:=rfl
theorem tw11818777954217113171:0=0:=rfl
theorem tw6807775292166780483:0=0:=rfl
theorem tw13425859557627766346:0=0:=rfl
theorem tw4249262067640196653:0=0:=rfl
theorem tw5629479871061975775:0=0:=rfl
theorem tw4031509186725848480:0=0:=rfl
theorem tw3127937143596077800:0=0:=rfl
theorem tw2496463502187867023:0=0:=rfl
theorem tw2642901337724183656:0=0:=rfl
theorem tw7377503920017838741:0=0:=rfl
theorem tw1516169920993364136:0=0:=rfl
theorem tw3542818950943643345:0=0:=rfl
theorem tw4929039832569792311:0=0:=rfl
theorem tw17548243595852199648:0=0:=rfl
theorem tw3604794680372161195:0=0:=rfl
theorem tw5584948362752886281:0=0:=rfl
theorem tw320583754260107512:0=0:=rfl
theorem tw9796900698821513400:0=0:=rfl
theorem tw2171323754158223280:0=0:=rfl
theorem tw4418557891407526072:0=0:=rfl
theorem tw12145115410941457941:0=0:=rfl
theorem tw4610173828666025977:0=0:=rfl
theorem tw16096931145102554023:0=0:=rfl
theorem tw7506244198983318623:0=0:=rfl
theorem tw1104511139205577921:0=0:=rfl
theorem tw18438681032073048076:0=0:=rfl
theorem tw2416886723611975576:0=0:=rfl
theorem tw9816013184696569155:0=0:=rfl
theorem tw11733005603073917554:0=0:=rfl
theorem tw8771111873067019652:0=0:=rfl
theorem tw4764532734735575122:0=0:=rfl
theorem tw6411086367492477313:0=0:=rfl
theorem tw18386098596621349183:0=0:=rfl
theorem tw3238064779956460038:0=0:=rfl
theorem tw4798887156250304064:0=0:=rfl
theorem tw1614014533200708247:0=0:=rfl
theorem tw18114789215332279505:0=0:=rfl
theorem tw6371304907785296620:0=0:=rfl
theorem tw13221947094178468555:0=0:=rfl
theorem tw5482186149555331287:0=0:=rfl
theorem tw10225102614361475480:0=0:=rfl
theorem tw14166940138082993658:0=0:=rfl
theorem tw15062402168246724645:0=0:=rfl
theorem tw15530316588166828608:0=0:=rfl
theorem tw18149304536150670225:0=0:=rfl
theorem tw18234988234005517658:0=0:=rfl
theorem tw7777930733357100505:0=0:=rfl
theorem tw13498077309335864466:0=0:=rfl
theorem tw8215948637512146091:0=0:=rfl
theorem tw12193906479232913564:0=0:=rfl
theorem tw15019114483349423480:0=0:=rfl
theorem tw6343479470347408966:0=0:=rfl
theorem tw8592173640809940306:0=0:=rfl
theorem tw13048148907124439856:0=0:=rfl
theorem tw12620404117088276376:0=0:=rfl
theorem tw10468721752444301552:0=0:=rfl
theorem tw4732461522763881642:0=0:=rfl
theorem tw9569786541173096402:0=0:=rfl
theorem tw9358284141387373769:0=0:=rfl
theorem tw10510915736957750829:0=0:=rfl
theorem tw8892159255276038106:0=0:=rfl
theorem tw6022500788678487957:0=0:=rfl
theorem tw12575380025832305002:0=0:=rfl
theorem tw10470201888295193608:0=0:=rfl
theorem tw16820678532222309607:0=0:=rfl
theorem tw4296131670400661758:0=0:=rfl
theorem tw6720975624551465335:0=0:=rfl
theorem tw16729008397595588555:0=0:=rfl
theorem tw7366448201329994807:0=0:=rfl
theorem tw15608197562581271304:0=0:=rfl
theorem tw7615320346682544862:0=0:=rfl
theorem tw6235602284881840553:0=0:=rfl
theorem tw1702803407801803786:0=0:=rfl
theorem tw2065433108993560216:0=0:=rfl
theorem tw15920374563555846903:0=0:=rfl
theorem tw9512011090209248039:0=0:=rfl
theorem tw17236578407622139576:0=0:=rfl
theorem tw10183304558368812498:0=0:=rfl
theorem tw2355056420217543083:0=0:=rfl
theorem tw5892692080544351670:0=0:=rfl
theorem tw7180182623648692979:0=0:=rfl
theorem tw3816326181947971208:0=0:=rfl
theorem tw14553372190611449860:0=0:=rfl
theorem tw13939021986823584720:0=0:=rfl
theorem tw3061341414440218927:0=0:=rfl
theorem tw6402638330132306212:0=0:=rfl
theorem tw2445362816379529169:0=0:=rfl
theorem tw3985502053597912756:0=0:=rfl
theorem tw12713117332179794428:0=0:=rfl
theorem tw1565133935434177594:0=0:=rfl
theorem tw13968444674116507915:0=0:=rfl
theorem tw10061389624472114774:0=0:=rfl
theorem tw5545987563177308627:0=0:=rfl
theorem tw15868888670811183240:0=0:=rfl
theorem tw7117069240350194730:0=0:=rfl
theorem tw2487933261632188739:0=0:=rfl
theorem tw2310710637261578651:0=0:=rfl
theorem tw15811535643704626166:0=0:=rfl
theorem tw189571296458679473:0=0:=rfl
theorem tw9787869452976184646:0=0:=rfl
theorem tw12520336481744765847:0=0:=rfl
theorem tw16042284758865319263:0=0:=rfl
theorem tw12978333919085270462:0=0:=rfl
theorem tw1072464328221903262:0=0:=rfl
theorem tw17837412782343031614:0=0:=rfl
theorem tw17270038615184275189:0=0:=rfl
theorem tw13777788007163325575:0=0:=rfl
theorem tw9818305674094717251:0=0:=rfl
theorem tw7420797998534460872:0=0:=rfl
theorem tw2863560517276593588:0=0:=rfl
theorem tw17862982842335452142:0=0:=rfl
theorem tw1506971325153559278:0=0:=rfl
theorem tw10214887104398626065:0=0:=rfl
theorem tw9438122354733704372:0=0:=rfl
theorem tw10519419720547462833:0=0:=rfl
theorem tw3382161323893117033:0=0:=rfl
theorem tw17425141503218222866:0=0:=rfl
theorem tw2554427285614677184:0=0:=rfl
theorem tw721644417163496969:0=0:=rfl
theorem tw16762569008996673585:0=0:=rfl
theorem tw6373845426432081369:0=0:=rfl
theorem tw9310965347132057781:0=0:=rfl
theorem tw17980339070093984671:0=0:=rfl
theorem tw14674339294864365007:0=0:=rfl
theorem tw11515372499714727620:0=0:=rfl
theorem tw11512208042202283090:0=0:=rfl
theorem tw2552262305924286223:0=0:=rfl
theorem tw2095435697861910239:0=0:=rfl
theorem tw427240946264253960:0=0:=rfl
theorem tw3053066798672134795:0=0:=rfl
theorem tw3575858551695153804:0=0:=rfl
theorem tw9130744228747906942:0=0:=rfl
theorem tw7287608113820010839:0=0:=rfl
theorem tw5461792676420835151:0=0:=rfl
theorem tw9649051213772237308:0=0:=rfl
theorem tw12387467416131893827:0=0:=rfl
theorem tw16668199345291199274:0=0:=rfl
theorem tw3820342482557418085:0=0:=rfl
theorem tw2090797688885298710:0=0:=rfl
theorem tw13816583435265644393:0=0:=rfl
theorem tw16974610678278987440:0=0:=rfl
theorem tw4003938707412369685:0=0:=rfl
theorem tw11816477694754287977:0=0:=rfl
theorem tw15717868237568240517:0=0:=rfl
theorem tw9946736281720498687:0=0:=rfl
theorem tw13026828192110844819:0=0:=rfl
theorem tw13149240890993882253:0=0:=rfl
theorem tw14883902480586006444:0=0:=rfl
theorem tw9132731675343887757:0=0:=rfl
theorem tw3516711508339283234:0=0:=rfl
theorem tw8079807443884991192:0=0:=rfl
theorem tw919918271801991995:0=0:=rfl
theorem tw9865729402166909222:0=0:=rfl
theorem tw11419416478826591796:0=0:=rfl
theorem tw14880127949539752830:0=0:=rfl
theorem tw14318141472325103311:0=0:=rfl
theorem tw8788925610795455260:0=0:=rfl
theorem tw6923968137173179171:0=0:=rfl
theorem tw2979155685836871281:0=0:=rfl
theorem tw15137657600769804655:0=0:=rfl
theorem tw13379562395765743149:0=0:=rfl
theorem tw10598065364513456206:0=0:=rfl
theorem tw9119484625433131024:0=0:=rfl
theorem tw3177958021866087495:0=0:=rfl
theorem tw16079508442496945295:0=0:=rfl
theorem tw2475919146793985349:0=0:=rfl
theorem tw17837832788237609757:0=0:=rfl
theorem tw17859567919521243944:0=0:=rfl
theorem tw14192908876029380075:0=0:=rfl
theorem tw15894204827786484851:0=0:=rfl
theorem tw4050400682496757264:0=0:=rfl
theorem tw5064039775847013747:0=0:=rfl
theorem tw8227014396985080156:0=0:=rfl
theorem tw1080443708360066306:0=0:=rfl
theorem tw13929464442379651036:0=0:=rfl
theorem tw15257541116250927599:0=0:=rfl
theorem tw8594754470992833508:0=0:=rfl
theorem tw12201651745264035642:0=0:=rfl
theorem tw17240764270723537000:0=0:=rfl
theorem tw2325199662766312492:0=0:=rfl
theorem tw2256783862133481613:0=0:=rfl
theorem tw5985613414675556928:0=0:=rfl
theorem tw16371130032885523509:0=0:=rfl
theorem tw4888326203310197581:0=0:=rfl
theorem tw7476077214228542177:0=0:=rfl
theorem tw1318712419672717362:0=0:=rfl
theorem tw14322207087292197493:0=0:=rfl
theorem tw7253098364230243377:0=0:=rfl
theorem tw9227806347933700857:0=0:=rfl
theorem tw5710362573191073556:0=0:=rfl
theorem tw404362577680131207:0=0:=rfl
theorem tw7460562454493422173:0=0:=rfl
theorem tw3176611959739963982:0=0:=rfl
theorem tw9721767980573309885:0=0:=rfl
theorem tw18382615947050717752:0=0:=rfl
theorem tw6761337844430361638:0=0:=rfl
theorem tw3816367423851682150:0=0:=rfl
theorem tw1832641145296432359:0=0:=rfl
theorem tw4986396312393374756:0=0:=rfl
theorem tw1784523002155681054:0=0:=rfl
theorem tw10530954050292725215:0=0:=rfl
theorem tw7043048709570849480:0=0:=rfl
theorem tw17807899183216024606:0=0:=rfl
theorem tw17219643735839239102:0=0:=rfl
theorem tw14966169616883272691:0=0:=rfl
theorem tw5800362751929288313:0=0:=rfl
theorem tw9058999714485652206:0=0:=rfl
theorem tw3372417452285837545:0=0:=rfl
theorem tw1029755146569819651:0=0:=rfl
theorem tw1973076803468153476:0=0:=rfl
theorem tw4919869388807978123:0=0:=rfl
theorem tw17003717471480181129:0=0:=rfl
theorem tw841016685554658473:0=0:=rfl
theorem tw1044355294571475838:0=0:=rfl
theorem tw4463441434289058031:0=0:=rfl
theorem tw4230644511129555375:0=0:=rfl
theorem tw3350537378466119379:0=0:=rfl
theorem tw812813378216428910:0=0:=rfl
theorem tw12404590708021101825:0=0:=rfl
theorem tw8588517672895327210:0=0:=rfl
theorem tw15723119480451039499:0=0:=rfl
theorem tw14680191665252177048:0=0:=rfl
theorem tw14825033001585664626:0=0:=rfl
theorem tw13008953652344485159:0=0:=rfl
theorem tw3612506014505823283:0=0:=rfl
theorem tw10504992071963286120:0=0:=rfl
theorem tw11684066808642687186:0=0:=rfl
theorem tw12231619508384866597:0=0:=rfl
theorem tw13274275356816953156:0=0:=rfl
theorem tw1735852289143661031:0=0:=rfl
theorem tw826391100815460784:0=0:=rfl
theorem tw4139810434245251130:0=0:=rfl
theorem tw8605105341691767486:0=0:=rfl
theorem tw1250307799695137121:0=0:=rfl
theorem tw16530462028779073073:0=0:=rfl
theorem tw7752706981499777680:0=0:=rfl
theorem tw18186539113078194891:0=0:=rfl
theorem tw11071276589566664300:0=0:=rfl
theorem tw12716221062688134917:0=0:=rfl
theorem tw9262964599705603525:0=0:=rfl
theorem tw17498846933962136665:0=0:=rfl
theorem tw18025134083950880245:0=0:=rfl
theorem tw15438204471172306363:0=0:=rfl
theorem tw3709660623071653281:0=0:=rfl
theorem tw1699348330481458200:0=0:=rfl
theorem tw7109240250767183947:0=0:=rfl
theorem tw16563033757092049861:0=0:=rfl
theorem tw16194596622783859443:0=0:=rfl
theorem tw12408216623692997747:0=0:=rfl
theorem tw2441225638012286384:0=0:=rfl
theorem tw5980778563308069718:0=0:=rfl
end cwh
set_option Elab.async true in
theorem cwh:PySem.Challenge.rw_ta0112_01.Holds:=by
 w_on
 o_law
 k_head
 (case hw=>w_witness2)
 k_fill
 intro w s₀ s₁ mg mb G Y fa o pm cd doc dV kV ho hd hcd hD hmg hg args bw as hpre hlay hrd hwl hlo
 have KX:=km_in_of Y
 km_tabs Y
 refine Ground.open G ?_
 intro T B D TE TW
 try (refine guard_noD D (by decide+kernel) ?_;clear D)
 have hfa:fa=339:=by
  have e:=mg_of KX T.g (n:=Str.ofString "law") (v:= .ref 339) rfl
  have e':mg (Str.ofString "law")=some (.ref fa):=hmg
  rw[e]at e'
  cases e'
  rfl
 km_lay T hmg ho hd cd
 clear hd hD hcd Y hmg ho
 subst hfa
 wrow_args hpre hlay hrd hwl hlo
 refine enter_call ?_
 w_top on
 rename Heap.IsList _ _ _=>hL
 rename Well _ _ _ _=>hW
 rename IntsAre _ _=>hI
 rename List Int=>ns
 have hn:ns.length≤63:=by omega
 refine G0 (Nd (T:=_) {ns:=by kernel_rfl,globs:=by kernel_rfl,fns:=by kernel_rfl,lex:= ?_,hdr:= ?_,forms:=fun a b c d e f k S=>by kernel_rfl,body:=by kernel_rfl,esc:=by kernel_rfl,bind:=fun v=>by kernel_rfl,p0:=⟨_,_,_,_,_,_,rfl,rfl,rfl,rfl,rfl,by kernel_rfl⟩,p1:=⟨_,_,_,_,_,_,rfl,rfl,rfl,rfl,rfl,by kernel_rfl⟩,p2:=⟨_,_,_,_,_,_,rfl,rfl,rfl,rfl,rfl,by kernel_rfl⟩}
  (fg.start KX T (by decide) (by kernel_rfl) (by kernel_rfl) (by kernel_rfl) (by kernel_rfl) (bm:=4) (by kernel_rfl) (by decide) (by decide)) (fun t=>rfl) rfl) hT9 hg hL hW hI (by decide) hn (Ku (n:=0)) (fun M=>rfl) (by kernel_rfl)
 ·exact⟨by kernel_rfl,by kernel_rfl,by kernel_rfl,⟨_,_,_,_,_,_,_,_,_,_,_,_,_,_,rfl⟩,by kernel_rfl,by kernel_rfl,by kernel_rfl⟩
 ·exact⟨by kernel_rfl,by kernel_rfl,by kernel_rfl,⟨_,_,_,_,_,_,_,_,_,_,_,_,_,_,rfl⟩,by kernel_rfl,by kernel_rfl,by kernel_rfl⟩
end Mini.Internal

theorem PySem.Challenge.cw_ta0112_01_holds : PySem.Challenge.rw_ta0112_01.Holds :=
  Mini.Internal.cwh
