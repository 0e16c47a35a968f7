import PyProof.Rows.All
import Wide.All
import OpenK.AllK
import Wide.FinOn
import Lean
import PySem.Challenge.RW_il0148_01
set_option Elab.async false
set_option maxRecDepth 100000
set_option tactic.hygienic false
set_option linter.all false
noncomputable section
open Array renaming getElem?_toList->cV,getElem?_eq_none_iff->fH,length_toList->gQ,mem_toList_iff->lu,any_toList->pM,replicate->qG,toList_inj->vf
open Bool renaming false_eq_true->aF,and_eq_true->bh,not_true->bD,not_false->bH,false_ne_true->cY,and_eq_true_iff->eE,not_eq_true'->kE,eq_false_iff->kI,and_false->oJ,false_and->sI
open List renaming append_assoc->aj,length_append->aq,length_map->au,mem_singleton->aJ,mem_append->aM,getElem?_eq_some_iff->aN,map_append->aP,append_nil->aW,getElem?_set_ne->aY,length_cons->aZ,getElem?_eq_getElem->bf,mem_cons_self->bw,prefix_append->bC,mem_of_getElem?->bG,mem_cons_of_mem->bM,forall_mem_cons->bO,replicate->bQ,getElem?_set_self->bR,mem_cons->bU,mem_append_left->cg,map_cons->cA,getElem?_append_right->cD,getElem?_append_left->cH,nodup_append->cN,drop_eq_nil_of_le->cP,length_nil->cR,getElem?_eq_none_iff->cU,length_set->dw,mem_map->dD,lookup->dG,take_of_length_le->dU,drop_eq_getElem_cons->eF,foldl_cons->eU,all_eq_true->eX,length_drop->eY,nodup_cons->fJ,getLast?_eq_none_iff->fO,getElem?_map->fU,range->gj,filter_cons->gB,length_dropLast->gC,map_nil->gO,forIn_cons->gW,set_append->gY,mem_filter->gZ,mem_append_right->iu,length_filter_le->iw,dropLast_subset->iD,getElem_of_mem->iJ,isEmpty_iff->iW,map_dropLast->jz,foldl_append->jB,sum_cons->jD,nil_append->jW,dropLast_concat_getLast->jY,dropLast_eq_take->j7,length_replicate->j8,take_append_drop->j9,getElem?_of_mem->lC,count_cons_self->lE,getLast?_eq_getElem?->lR,exists_mem_of_ne_nil->lU,replicate_succ->lW,map_singleton->m9,count_pos_iff->nj,getElem?_inj->oH,length_range->oN,filter_eq_nil_iff->oO,nodup_nil->oR,filter_congr->oU,isEmpty_nil->pN,length_take->pO,not_mem_nil->pQ,any_cons->p6,mem_of_mem_take->ql,getLast?_eq_some_getLast->qm,dropLast_concat->qp,contains_eq_mem->qt,getLast?_concat->qu,map_congr_left->qH,filter_eq_self->qI,zip_cons_cons->sJ,filter_append->sU,reverse_cons->tL,Pairwise->um,map_take->uo,any_eq_true->vg,cons_append->vm,cons_ne_nil->vo,drop_subset->vp,getElem_mem->vq,map_map->wF,set_set->wH,length->yh
open Nat renaming le_trans->bT,le_refl->bV,le_succ_of_le->cQ,lt_add_right->dh,zero_le->dR,le_add_right->d8,ne_of_gt->gb,le_of_lt->iQ,le_of_ble_eq_true->ji,zero_add->jA,le_of_not_lt->jG,lt_of_le_of_lt->jR,mod_lt->lD,ne_of_lt->lN,min_eq_right->lO,lt_irrefl->mC,min_eq_left->mG,not_lt_zero->mH,lt_of_lt_of_le->m8,add_sub_cancel_left->nP,succ_le_succ->pP,add_assoc->ug,sub_self->wI,beq->yZ
open Option renaming bind_eq_some_iff->bk,map_eq_some_iff->bx,isNone_iff_eq_none->lQ,map_some->qF,map->wG
open PyProof.Rows renaming listItems_at->iR
open PySem renaming wpAny_bind->ak,Value->ao,wpAny_pure->aB,Shared->aD,Addr->aR,wpAny->bI,Around->bJ,mainGlobals->cC,Heap->cG,Program->cI,wpAny_holding->cJ,wpAny_mono->cO,typeLookup_type->dZ,wpAny_call_entry->d7,World->eZ,codeAny_builtin->fK,wpAny_newObj_type->fQ,builtinLookup_eq_fast->fV,plainId_quiet->fY,codeAny->f9,sysModules->gk,wpAny_callSpecial?_slot->gA,recursionLimit->gP,sizeLine->ig,isSubtype_type->iC,builtinsNs->iG,wpAny_askSetting->iY,wpAny_seqItems->jf,entryFor_of_tree->jH,wpAny_field->jO,wpAny_updateSeq->jX,wpAny_setState_of->kJ,wpAny_rule->lz,wpAny_setField->lB,wpAny_standAt->mz,wpAny_of_eq->nO,wpAny_pyIter_list->oK,wpAny_pyNext_list_item->oM,wpAny_letGo->qj,codeAny_mono->qU,wpAny_call->sO,wpAny_tryCatch->sS,wpAny_truthy_bool->tK,wpAny_attempt->uh,wpAny_isInstance->vh,wpAny_specialOf->xg,codeAny_of_tree->xj,wpAny_arrayLoop->xq
open PySem.Builtin.List renaming listItems->dj
open PySem.Heap renaming get?_push_of_some->bB,get?_push_size->bW,get?_update_self->b8,get?_none_of_le->dg,SameBut->dO,get?_update_other->eO,lt_size->gM,size_push->jJ,ExtBut->lA
open PySem.Heap.SameBut renaming update->cB
open PySem.Txt renaming slice->dF,split->dJ,startswith->gK,endswith->lM,lstripChars->mF,rfind->nM,rstripChars->w7
open PySem.W renaming hideAll_none->jy
namespace Mine
open PySem PySem.W PySem.Calls PyProof.Rows PySem.Spec
set_option maxHeartbeats 0 in
theorem said_ok:PySem.Challenge.rw_il0148_01.wellSaid=true:=by
 rw[Fast.te9446332074065402090];delta Fast.tw9446332074065402090 Fast.tw17960256430627541270 Fast.tw2436336058641802641 Fast.tw12908688711261696721
 repeat' with_reducible refine look_both ?_ ?_
 all_goals as_aux_lemma=>kernel_rfl
end Mine
namespace Mine
open PySem PySem.W PySem.Calls PyProof.Rows
noncomputable def afa(st:SharedT->Thread->Option (SharedT×Thread))(ok:Thread->Bool):Nat->SharedT->Thread->Option SharedT
 |0,_,_=>none
 |n+1,s,t=>match through t with
  |true=>some s
  |false=>match ok t with
   |false=>none
   |true=>match st s t with
    |some (s',t')=>afa st ok n s' t'
    |none=>none
theorem WK{tb:String->Option Builtin}{p:cI}{w:eZ}{nB:Nat}{ann:Option ao}{s':SharedT}:∀{n:Nat}{s:SharedT}{t:Thread},afa (stepT (denote tb) p w) (stepOk nB ann) n s t=some s'->topRun tb p w nB ann n s.abs t=some s'.abs
 |0,_,_,h=>nomatch h
 |n+1,s,t,h=>by
  unfold afa at h;unfold topRun;cases ht:through t with
  |true=>rw[ht]at h;cases h;rfl
  |false=>
   rw[ht]at h;cases hk:stepOk nB ann t with
   |false=>rw[hk]at h;cases h
   |true=>
    rw[hk]at h;cases hs:stepT (denote tb) p w s t with
    |none=>rw[hs]at h;cases h
    |some r=>obtain⟨sA,tA⟩:=r;rw[hs]at h;rw[stepT_spec hs];exact WK h
noncomputable def grow:List Obj->BT->Nat->Option BT
 |[],t,_=>some t
 |o::l,t,n=>match((t.ins n o).get n).isSome with
  |true=>grow l (t.ins n o) (n+1)
  |false=>none
theorem WL{life:Life}{t':BT}:∀{l:List Obj}{t:BT}{n:Nat},grow l t n=some t'->(absHeap t' (n+l.length) life).objs.toList=(absHeap t n life).objs.toList++l
 |[],t,n,h=>by cases h;simp
 |o::l,t,n,h=>by
  unfold grow at h;cases e:((t.ins n o).get n).isSome with
  |false=>rw[e]at h;cases h
  |true=>
   rw[e]at h;have q:=WL (life:=life) h;rw[absHeap_ins e]at q;rw[aZ,Nat.add_comm l.length 1,<-ug,q];show((absHeap t n life).objs.push o).toList++l=_;simp
noncomputable def toT(s:aD):Option SharedT:=(grow s.heap.objs.toList .nil 0).map λ t=>⟨t,s.heap.objs.size,s.heap.life,s.gens,s.drawn,s.toks,s.os⟩
theorem ahz{s:aD}{u:SharedT}(h:toT s=some u):u.abs=s:=by
 obtain⟨t,e,rfl⟩:=bx.mp h;obtain⟨⟨os,life⟩,gens,drawn,toks,o⟩:=s;have q:=WL (life:=life) e;have z:absHeap t os.size life=⟨os,life⟩:=by
  show Heap.mk _ _=_;refine congrArg (Heap.mk · life) (vf.mp ?_);simpa [absHeap,BT.list]using q
 show Shared.mk _ _ _ _ _=_;exact congrArg (Shared.mk · gens drawn toks o) z
noncomputable def ahA(st:SharedT->Thread->Option (SharedT×Thread))(ok:Nat->Option ao->Thread->Bool)(p:cI)(N:Nat)(sB:aD):Option aD:=
 match sB.heap.isNs cC&&sB.gens.size==0 with
 |true=>(toT sB).bind λ u=>(afa st (ok sB.heap.objs.size (sB.heap.nsMap cC "__annotations__")) N u (topStub p)).bind λ uA=>match staticsOk (importedModules p.main.body) sB.heap uA.abs.heap&&namesBound p uA.abs.heap&&gensDone uA.abs&&laidKept sB.heap uA.abs.heap with
   |true=>some uA.abs
   |false=>none
 |false=>none
theorem afb{tb:String->Option Builtin}{p:cI}{w:eZ}{N:Nat}{sB s:aD}(h:ahA (stepT (denote tb) p w) stepOk p N sB=some s):topFrom tb p w N sB=some s:=by
 unfold ahA at h;unfold topFrom;cases e:sB.heap.isNs cC&&sB.gens.size==0 with
 |false=>rw[e]at h;cases h
 |true=>
  rw[e]at h;obtain⟨u,e1,h⟩:=bk.mp h;obtain⟨uA,e2,h⟩:=bk.mp h;have r:=WK e2;rw[ahz e1]at r;dsimp only;rw[r];exact h
theorem ajN{p q:cI}{loose:List Str}{Xt:aD->Bool}{α:Type}{Yf:aD->α}{Ya:eZ->α}{N:Nat}{g0:Bool}
  (h:∀w,(((Fast.tw10274390034422433532 Fast.tw14364793385576792824 (opening p) w N (Fast.tw1435165496053646825 (opening p)).1 (Fast.tw1435165496053646825 (opening p)).2).bind (Fast.tw14289696077712309145 p)).bind
   (ahA (Fast.tw10156331382660048174 (Fast.tw11892475500146522536 Fast.tw14364793385576792824) p w) Fast.tw6613529449190102663 p N)).map (λ s=>(Fast.tw4187177175401517315 q loose (importedModules p.main.body) Xt g0 s,Yf s))=some (openGood q loose,Ya w)):LeftO p q loose Xt Yf Ya N g0:=λ w=>by
 have h:=h w;rw[<-Fast.te10274390034422433532,<-Fast.te14364793385576792824,<-Fast.te1435165496053646825,<-Fast.te14289696077712309145,<-Fast.te10156331382660048174,<-Fast.te11892475500146522536,<-Fast.te6613529449190102663,<-Fast.te4187177175401517315]at h;obtain⟨s,e,e'⟩:=bx.mp h;obtain⟨sB,e1,e2⟩:=bk.mp e;unfold openEnds fencedOpening;rw[e1,Option.bind_some,afb e2,qF,e']
end Mine
namespace Mine
noncomputable section
open PySem
theorem ns{α:Type}{x:α}{P:Prop}(h:none=some x):P:=nomatch h
theorem qW{P:Prop}(h:false=true):P:=nomatch h
theorem xu{α:Type}{a b c:α}(h:a=b)(n:b≠c):a≠c:=λ q=>n (h.symm.trans q)
theorem uq{P:Prop}(h:∀G:Prop,(P->G)->G):P:=h P id
inductive Bi where
 |abs|len|sorted|iter|issubclass|isinstance|min|max
 |range|tuple|bool|set|type|str|bytes|list|map|enumerate
 deriving DecidableEq
noncomputable def Bi.val:Bi->ao
 |.abs=>.builtin "abs"|.len=>.builtin "len"|.sorted=>.builtin "sorted"|.iter=>.builtin "iter"|.issubclass=>.builtin "issubclass"|.isinstance=>.builtin "isinstance"
 |.min=>.builtin "min"|.max=>.builtin "max"
 |.range=>.type "range"|.tuple=>.type "tuple"|.bool=>.type "bool"|.set=>.type "set"|.type=>.type "type"|.str=>.type "str"|.bytes=>.type "bytes"
 |.list=>.type "list"|.map=>.type "map"|.enumerate=>.type "enumerate"
inductive Me where
 |join|split|startswith|endswith|rfind|rstrip|lstrip|append|pop|clear|get|values|add
 deriving DecidableEq
inductive V where
 |none|bool (b:Bool)|int (i:Int)|str (s:Str)|ref (n:Nat)|fn (a:Nat)|bi (b:Bi)
 deriving DecidableEq
inductive O where
 |list (xs:List V)|tup (xs:List V)|dict (kvs:List (Str×V)) (ep:Nat)|set (xs:List Str)|bset (bs:List Bool)
 |inst (d:Nat)|node (d:Nat) (fs:List (Option V))
 |cell (v:Option V)|liter (l i:Nat)|eit (l i:Nat)|bnext (it:Nat)|rng (n:Int)|enum (it i:Nat)|mapo (f:Nat) (it:Nat)|view (d:Nat)|any
structure St where
 loc:List (Str×Option V)
 sto:List O
inductive Fl where
 |next|brk|cont|ret (v:V)
inductive Gi where
 |stop|cyc
inductive aC(α:Type) where
 |ok (a:α) (Y:St)|exc (e:Gi) (Y:St)|bad
noncomputable def aC.bind{α β:Type}(r:aC α)(k:α->St->aC β):aC β:=match r with
 |.ok a Y=>k a Y
 |.exc e Y=>.exc e Y
 |.bad=>.bad
@[simp] theorem aC.bind_ok {α β:Type}(a:α) (Y:St) (k:α->St->aC β):(aC.ok a Y).bind k=k a Y:=rfl
@[simp] theorem aC.bind_exc {α β:Type}(e:Gi) (Y:St) (k:α->St->aC β):(aC.exc e Y:aC α).bind k=.exc e Y:=rfl
@[simp] theorem aC.bind_bad {α β:Type}(k:α->St->aC β):(aC.bad:aC α).bind k=.bad:=rfl
noncomputable def aC.bindN{α β:Type}(r:aC α)(k:α->St->aC β):aC β:=match r with
 |.ok a Y=>k a Y
 |.exc _ _=>.bad
 |.bad=>.bad
@[simp] theorem aC.bindN_ok {α β:Type}(a:α) (Y:St) (k:α->St->aC β):(aC.ok a Y).bindN k=k a Y:=rfl
@[simp] theorem aC.bindN_exc {α β:Type}(e:Gi) (Y:St) (k:α->St->aC β):(aC.exc e Y:aC α).bindN k=.bad:=rfl
@[simp] theorem aC.bindN_bad {α β:Type}(k:α->St->aC β):(aC.bad:aC α).bindN k=.bad:=rfl
structure En where
 scope:Scope
 cells:List (Str×Nat)
 free:Bool:=true
 own:Bool:=true
noncomputable def k0:Nat:=8
noncomputable def big:Nat:=100000
noncomputable def wf:Nat:=100000
noncomputable def dH:List (Str×Option V)->Str->V->List (Str×Option V)
 |[],x,v=>[(x,some v)]
 |(y,o)::r,x,v=>if y==x then(y,some v)::r else(y,o)::dH r x v
noncomputable def cF(l:List (Str×Option V))(x:Str):Option V:=(l.lookup x).bind id
noncomputable def St.new(Y:St)(o:O):aC V:=.ok (.ref Y.sto.length) {Y with sto:=Y.sto++[o]}
noncomputable def St.upd(Y:St)(i:Nat)(o:O):St:={Y with sto:=Y.sto.set i o}
noncomputable def St.mut(Y:St)(i:Nat)(o:O)(v:V):aC V:=if k0<=i then .ok v (Y.upd i o)else .bad
noncomputable def V.int?:V->Option Int
 |.none|.bool q=>.none
 |.int i=>some i
 |.str q|.ref q|.fn q|.bi q=>.none
noncomputable def V.str?:V->Option Str
 |.none|.bool q|.int q=>.none
 |.str x=>some x
 |.ref q|.fn q|.bi q=>.none
noncomputable def V.ref?:V->Option Nat
 |.none|.bool q|.int q|.str q=>.none
 |.ref n=>some n
 |.fn q|.bi q=>.none
noncomputable def O.list?:O->Option (List V)
 |.list xs=>some xs
 |.tup q|.dict q q1|.set q|.bset q|.inst q|.node q q1|.cell q|.liter q q1|.eit q q1|.bnext q|.rng q|.enum q q1|.mapo q q1|.view q|.any=>none
noncomputable def O.dict?:O->Option (List (Str×V)×Nat)
 |.list q|.tup q=>none
 |.dict kvs ep=>some (kvs,ep)
 |.set q|.bset q|.inst q|.node q q1|.cell q|.liter q q1|.eit q q1|.bnext q|.rng q|.enum q q1|.mapo q q1|.view q|.any=>none
noncomputable def V.bool?:V->Option Bool
 |.none=>.none
 |.bool b=>some b
 |.int q|.str q|.ref q|.fn q|.bi q=>.none
noncomputable def O.tup?:O->Option (List V)
 |.list q=>none
 |.tup xs=>some xs
 |.dict q q1|.set q|.bset q|.inst q|.node q q1|.cell q|.liter q q1|.eit q q1|.bnext q|.rng q|.enum q q1|.mapo q q1|.view q|.any=>none
noncomputable def O.cell?:O->Option V
 |.list q|.tup q|.dict q q1|.set q|.bset q|.inst q|.node q q1=>none
 |.cell v=>v
 |.liter q q1|.eit q q1|.bnext q|.rng q|.enum q q1|.mapo q q1|.view q|.any=>none
noncomputable def O.eit?:O->Option (Nat×Nat)
 |.list q|.tup q|.dict q q1|.set q|.bset q|.inst q|.node q q1|.cell q|.liter q q1=>none
 |.eit l i=>some (l,i)
 |.bnext q|.rng q|.enum q q1|.mapo q q1|.view q|.any=>none
noncomputable def O.liter?:O->Option (Nat×Nat)
 |.list q|.tup q|.dict q q1|.set q|.bset q|.inst q|.node q q1|.cell q=>none
 |.liter l i=>some (l,i)
 |.eit q q1|.bnext q|.rng q|.enum q q1|.mapo q q1|.view q|.any=>none
noncomputable def O.bnext?:O->Option Nat
 |.list q|.tup q|.dict q q1|.set q|.bset q|.inst q|.node q q1|.cell q|.liter q q1|.eit q q1=>none
 |.bnext it=>some it
 |.rng q|.enum q q1|.mapo q q1|.view q|.any=>none
noncomputable def St.get{α:Type}(Y:St)(i:Nat)(f:O->Option α):Option α:=(Y.sto[i]?).bind f
noncomputable def St.list?(Y:St)(i:Nat):Option (List V):=(Y.sto[i]?).bind O.list?
noncomputable def St.dict?(Y:St)(i:Nat):Option (List (Str×V)×Nat):=(Y.sto[i]?).bind O.dict?
noncomputable def O.view?:O->Option Nat
 |.list q|.tup q|.dict q q1|.set q|.bset q|.inst q|.node q q1|.cell q|.liter q q1|.eit q q1|.bnext q|.rng q|.enum q q1|.mapo q q1=>none
 |.view d=>some d
 |.any=>none
noncomputable def O.enum?:O->Option (Nat×Nat)
 |.list q|.tup q|.dict q q1|.set q|.bset q|.inst q|.node q q1|.cell q|.liter q q1|.eit q q1|.bnext q|.rng q=>none
 |.enum k i=>some (k,i)
 |.mapo q q1|.view q|.any=>none
noncomputable def O.seq?:O->Option (List V)
 |.list xs=>some xs
 |.tup xs=>some xs
 |.dict q q1|.set q|.bset q|.inst q|.node q q1|.cell q|.liter q q1|.eit q q1|.bnext q|.rng q|.enum q q1|.mapo q q1|.view q|.any=>none
noncomputable def V.fn?:V->Option Nat
 |.none|.bool q|.int q|.str q|.ref q=>.none
 |.fn a=>some a
 |.bi q=>.none
noncomputable def rm{α:Type}(l:List α):Option α:=match l with
 |[]=>none
 |[x]=>some x
 |_::_::_=>none
noncomputable def Jq{α:Type}(l:List α):Option (α×α):=match l with
 |[]=>none
 |x::r=>(rm r).map (x,·)
noncomputable def GF{α:Type}(l:List α):Option (α×α×α):=match l with
 |[]=>none
 |x::r=>(Jq r).map (x,·)
noncomputable def onS{α β:Type}(o:Option α)(k:α->aC β):aC β:=match o with
 |some a=>k a
 |none=>.bad
noncomputable def grd{α:Type}(b:Bool)(r:aC α):aC α:=if b then r else .bad
theorem Cy{α:Type}{Y:St}{i:Nat}{o:O}(e:Y.sto[i]?=some o)(f:O->Option α):Y.get i f=f o:=by unfold St.get;rw[e];rfl
theorem gD{α β:Type}{o:Option α}{k:α->aC β}{a:α}(e:o=some a):onS o k=k a:=by rw[e];rfl
theorem gm{Y:St}{i:Nat}{xs:List V}(e:Y.sto[i]?=some (.list xs)):Y.list? i=some xs:=by unfold St.list?;rw[e];rfl
theorem ur{Y:St}{i ep:Nat}{kvs:List (Str×V)}(e:Y.sto[i]?=some (.dict kvs ep)):Y.dict? i=some (kvs,ep):=by unfold St.dict?;rw[e];rfl
theorem dY{α β:Type}{o:Option α}{k:α->Option β}{a:α}(e:o=some a):o.bind k=k a:=by rw[e];rfl
noncomputable def Mx:List (Str×Nat):=[("TopologicalSorter",137),("_NodeInfo",40),("fspath",214),("commonprefix",221),("_get_sep",235),("join",242),
 ("splitroot",249),("dirname",256),("normpath",263),("abspath",270),("relpath",278),("commonpath",283),("_law_pieces",297),("_law_text",304),
 ("_law_walk",311),("_law_loose",318),("_law_alike",325)]
noncomputable def Mz:List (Str×Bi):=[("abs",.abs),("range",.range),("len",.len),("sorted",.sorted),("tuple",.tuple),
 ("bool",.bool),("set",.set),("iter",.iter),("type",.type),("issubclass",.issubclass),("str",.str),("bytes",.bytes),
 ("isinstance",.isinstance),("list",.list),("map",.map),("min",.min),("max",.max),("enumerate",.enumerate)]
noncomputable def aaM(x:Str):Option V:=
 match Mx.lookup x with
 |some a=>some (.fn a)
 |none=>match Mz.lookup x with
  |some v=>some (.bi v)
  |none=>if x==("_law_files":Str)then some (.ref 0)else if x==("_NODE_OUT":Str)then some (.int (-1))else if x==("_NODE_DONE":Str)then some (.int (-2))else none
noncomputable def Qj(en:En)(x:Str)(Y:St):aC V:=match en.scope.names.lookup x with
 |some .local=>onS (cF Y.loc x) λ v=>.ok v Y
 |some .cell=>onS (en.cells.lookup x) λ c=>onS (Y.get c O.cell?) λ v=>.ok v Y
 |some .globalImplicit=>onS (aaM x) λ v=>.ok v Y
 |_=>.bad
noncomputable def alL(c:Nat)(v:V)(Y:St):O->aC Unit
 |.list q|.tup q|.dict q q1|.set q|.bset q|.inst q|.node q q1=>.bad
 |.cell u=>grd (decide (k0<=c)) (.ok () (Y.upd c (.cell (some v))))
 |.liter q q1|.eit q q1|.bnext q|.rng q|.enum q q1|.mapo q q1|.view q|.any=>.bad
noncomputable def Jr(c:Nat)(v:V)(Y:St):aC Unit:=onS (Y.sto[c]?) (alL c v Y)
noncomputable def gF(en:En)(x:Str)(v:V)(Y:St):aC Unit:=match en.scope.names.lookup x with
 |some .local=>.ok () {Y with loc:=dH Y.loc x v}
 |some .cell=>onS (en.cells.lookup x) λ c=>Jr c v Y
 |_=>.bad
noncomputable def jP:List V->Option (List Str)
 |[]=>some []
 |.str s::r=>(jP r).map (s::·)
 |_::_=>none
noncomputable def small(n:Nat):Bool:=n<=big
noncomputable def ru(a b:V)(Y:St):aC V:=match a with
 |.none|.bool q=>.bad
 |.int i=>onS b.int? λ j=>.ok (.int (i+j)) Y
 |.str x=>onS b.str? λ y=>grd (small (x.length+y.length)) (.ok (.str (x++y)) Y)
 |.ref i=>onS b.ref? λ j=>onS (Y.list? i) λ xs=>onS (Y.list? j) λ ys=>grd (small (xs.length+ys.length)) (Y.new (.list (xs++ys)))
 |.fn q|.bi q=>.bad
noncomputable def Qk(a b:V)(k:Int->Int->aC V):aC V:=onS a.int? λ i=>onS b.int? λ j=>k i j
noncomputable def GJ(a b:V)(Y:St):aC V:=match a with
 |.none|.bool q|.int q=>.bad
 |.str x=>onS b.int? λ j=>grd (decide (x.length=1/\0<=j/\small j.toNat=true)) (.ok (.str (Txt.mul x j)) Y)
 |.ref i=>onS b.int? λ j=>onS (Y.list? i) λ xs=>onS (rm xs) λ x=>grd (small j.toNat&&decide (-1000000<=j)) (Y.new (.list (bQ j.toNat x)))
 |.fn q|.bi q=>.bad
noncomputable def nQ(op:Operator)(a b:V)(Y:St):aC V:=match op with
 |.Add=>ru a b Y
 |.Sub=>Qk a b λ i j=>.ok (.int (i - j)) Y
 |.Mult=>GJ a b Y
 |.MatMult|.Div=>.bad
 |.Mod=>Qk a b λ i j=>if j=0 then .bad else .ok (.int (i.fmod j)) Y
 |.Pow|.LShift|.RShift|.BitOr|.BitXor|.BitAnd=>.bad
 |.FloorDiv=>Qk a b λ i j=>if j=0\/1000000 < j.natAbs then .bad else .ok (.int (i.fdiv j)) Y
noncomputable def ajO(a b:V)(Y:St):aC V:=match a with
 |.none|.bool q=>.bad
 |.int i=>onS b.int? λ j=>.ok (.int (i+j)) Y
 |.str x=>onS b.str? λ y=>grd (small (x.length+y.length)) (.ok (.str (x++y)) Y)
 |.ref q|.fn q|.bi q=>.bad
noncomputable def sY(op:Operator)(a b:V)(Y:St):aC V:=match op with
 |.Add=>ajO a b Y
 |.Sub=>Qk a b λ i j=>.ok (.int (i - j)) Y
 |.Mult|.MatMult|.Div|.Mod|.Pow|.LShift|.RShift|.BitOr|.BitXor|.BitAnd|.FloorDiv=>.bad
noncomputable def aaN(i j:Nat)(Y:St)(k:List Str->List Str->Bool):Option Bool:=(Y.list? i).bind λ xs=>(Y.list? j).bind λ ys=>(jP xs).bind λ x=>(jP ys).bind λ y=>if(small x.length&&small y.length)=true then some (k x y)else none
noncomputable def ahB(a b:V)(Y:St)(fs:Str->Str->Bool)(fi:Int->Int->Bool)(fl:List Str->List Str->Bool):Option Bool:=match a with
 |.none|.bool q=>none
 |.int x=>b.int?.map (fi x)
 |.str x=>b.str?.map (fs x)
 |.ref i=>b.ref?.bind λ j=>aaN i j Y fl
 |.fn q|.bi q=>none
noncomputable def FN(a b:V)(Y:St):Option Bool:=ahB a b Y (λ x y=>x==y) (λ x y=>x==y) λ x y=>x==y
noncomputable def vz(a b:V)(Y:St):Option Bool:=ahB a b Y (λ x y=>x != y) (λ x y=>x != y) λ x y=>x != y
noncomputable def Tq(a b:V):Option Bool:=match b with
 |.none=>some (decide (a=.none))
 |.bool y=>a.bool?.map λ x=>x==y
 |.int q|.str q|.ref q|.fn q|.bi q=>none
noncomputable def inO(sets:Bool)(x:Str):O->Option Bool
 |.list ys=>(jP ys).bind λ y=>if small y.length=true then some (y.contains x)else none
 |.tup q=>none
 |.dict kvs u=>some (kvs.any λ p=>p.1==x)
 |.set xs=>if(sets&&decide (xs.length < 4001))=true then some (xs.contains x)else none
 |.bset q|.inst q|.node q q1|.cell q|.liter q q1|.eit q q1|.bnext q|.rng q|.enum q q1|.mapo q q1|.view q|.any=>none
noncomputable def inD(a b:V)(Y:St)(sets:Bool):Option Bool:=a.str?.bind λ x=>b.ref?.bind λ j=>(Y.sto[j]?).bind (inO sets x)
noncomputable def inM(a b:V)(Y:St):Option Bool:=inD a b Y true
noncomputable def XJ(a b:V)(Y:St):Option Bool:=(inD a b Y false).map λ t=>!t
noncomputable def agB(a b:V)(k:Int->Int->Bool):Option Bool:=a.int?.bind λ i=>b.int?.map (k i)
noncomputable def zG(op:CmpOp)(a b:V)(Y:St):Option Bool:=match op with
 |.Eq=>FN a b Y
 |.NotEq=>vz a b Y
 |.Lt=>agB a b λ x y=>decide (x < y)
 |.LtE|.Gt=>none
 |.GtE=>agB a b λ x y=>decide (x>=y)
 |.Is=>Tq a b
 |.IsNot=>(Tq a b).map λ t=>!t
 |.In=>inM a b Y
 |.NotIn=>XJ a b Y
noncomputable def ahC:O->Option Bool
 |.list xs=>if small xs.length=true then some (!xs.isEmpty)else none
 |.tup xs=>if small xs.length=true then some (!xs.isEmpty)else none
 |.dict q q1|.set q|.bset q|.inst q|.node q q1|.cell q|.liter q q1|.eit q q1|.bnext q|.rng q|.enum q q1|.mapo q q1|.view q|.any=>none
noncomputable def cL(a:V)(Y:St):Option Bool:=match a with
 |.none=>some false
 |.bool b=>some b
 |.int i=>some (i != 0)
 |.str s=>if small s.length=true then some (s.length != 0)else none
 |.ref i=>(Y.sto[i]?).bind ahC
 |.fn q|.bi q=>none
noncomputable def za(i:Int)(n:Nat):Option Nat:=if i < -1000000\/1000000 < i then none else seqIndex? i n
noncomputable def ajP(i:V):O->Option V
 |.list xs=>i.int?.bind λ k=>if small xs.length then(za k xs.length).bind (xs[·]?)else none
 |.tup xs=>i.int?.bind λ k=>if small xs.length then(za k xs.length).bind (xs[·]?)else none
 |.dict kvs u=>i.str?.bind λ x=>kvs.lookup x
 |.set q|.bset q|.inst q|.node q q1|.cell q|.liter q q1|.eit q q1|.bnext q|.rng q|.enum q q1|.mapo q q1|.view q|.any=>none
noncomputable def iz(a i:V)(Y:St):Option V:=match a with
 |.none|.bool q|.int q=>none
 |.str x=>i.int?.bind λ k=>if small x.length then(za k x.length).bind λ j=>(x.cps[j]?).map λ c=>.str ⟨#[c]⟩else none
 |.ref l=>(Y.sto[l]?).bind (ajP i)
 |.fn q|.bi q=>none
noncomputable def cut{α:Type}(lo hi:Option Int)(xs:List α):List α:=(xs.drop (W.kms_lo lo xs.length)).take (W.kms_hi hi xs.length - W.kms_lo lo xs.length)
noncomputable def MF(a:V)(lo hi:Option Int)(Y:St):aC V:=match a with
 |.none|.bool q|.int q=>.bad
 |.str x=>grd (small x.length) (.ok (.str (dF x lo hi)) Y)
 |.ref l=>onS (Y.list? l) λ xs=>grd (small xs.length) (Y.new (.list (cut lo hi xs)))
 |.fn q|.bi q=>.bad
noncomputable def rz:V->Option (Option Int)
 |.none=>some none
 |.bool q=>none
 |.int i=>if -1000000<=i/\i<=1000000 then some (some i)else none
 |.str q|.ref q|.fn q|.bi q=>none
noncomputable def uw(kvs:List (Str×V))(x:Str)(v:V):List (Str×V):=
 if kvs.any (λ p=>p.1==x)then kvs.map λ p=>if p.1==x then(p.1,v)else p else kvs++[(x,v)]
noncomputable def g8(kvs:List (Str×V))(ep:Nat)(x:Str)(v:V):O:=.dict (uw kvs x v) (if kvs.any (λ p=>p.1==x)then ep else ep+1)
noncomputable def p7(a i v:V)(Y:St):aC V:=onS a.ref? λ l=>onS i.str? λ x=>onS (Y.dict? l) λ p=>grd (small p.1.length) (Y.mut l (g8 p.1 p.2 x v) .none)
noncomputable def Ab(a i:V)(Y:St):aC V:=onS a.ref? λ l=>onS i.str? λ x=>onS (Y.dict? l) λ q=>grd (small q.1.length&&q.1.any (λ p=>p.1==x)) (Y.mut l (.dict (q.1.filter λ p=>!(p.1==x)) (q.2+1)) .none)
noncomputable def fP:List Str:=["_node2info","_ready_nodes","_npassedout","_nfinished"]
noncomputable def Cz(x:Str):Option Nat:=if x==("node":Str)then some 0 else if x==("npredecessors":Str)then some 1 else if x==("successors":Str)then some 2 else none
noncomputable def aaO(i:Nat)(x:Str)(Y:St):O->aC V
 |.list q|.tup q|.dict q q1|.set q|.bset q=>.bad
 |.inst d=>grd (fP.contains x) (onS (Y.dict? d) λ p=>onS (p.1.lookup x) λ v=>.ok v Y)
 |.node u fs=>onS (Cz x) λ k=>onS (fs[k]?) λ o=>onS o λ v=>.ok v Y
 |.cell q=>.bad
 |.liter u u2=>grd (x==("__next__":Str)) (Y.new (.bnext i))
 |.eit q q1|.bnext q|.rng q|.enum q q1|.mapo q q1|.view q|.any=>.bad
noncomputable def fu(a:V)(x:Str)(Y:St):aC V:=onS a.ref? λ i=>onS (Y.sto[i]?) (aaO i x Y)
noncomputable def Ql(i:Nat)(x:Str)(v:V)(Y:St):O->aC V
 |.list q|.tup q|.dict q q1|.set q|.bset q=>.bad
 |.inst d=>grd (fP.contains x) (onS (Y.dict? d) λ p=>grd (decide (p.1.length < 100)) (Y.mut d (g8 p.1 p.2 x v) .none))
 |.node d fs=>onS (Cz x) λ k=>grd (decide (k < fs.length)) (Y.mut i (.node d (fs.set k (some v))) .none)
 |.cell q|.liter q q1|.eit q q1|.bnext q|.rng q|.enum q q1|.mapo q q1|.view q|.any=>.bad
noncomputable def dz(a:V)(x:Str)(v:V)(Y:St):aC V:=onS a.ref? λ i=>onS (Y.sto[i]?) (Ql i x v Y)
inductive vA where
 |user (f:Nat)|bi (m:Me)
noncomputable def yj:List (Str×Nat):=[("_get_nodeinfo",80),("add",87),("prepare",92),("get_ready",99),("is_active",106),("done",120),("_find_cycle",127)]
noncomputable def GK:List (Str×Me):=[("join",.join),("split",.split),("startswith",.startswith),("endswith",.endswith),("rfind",.rfind),("rstrip",.rstrip),("lstrip",.lstrip)]
noncomputable def CG:List (Str×Me):=[("append",.append),("pop",.pop),("clear",.clear)]
noncomputable def CJ:List (Str×Me):=[("get",.get),("values",.values)]
noncomputable def GP:List (Str×Me):=[("add",.add)]
noncomputable def afc(x:Str)(Y:St):O->Option vA
 |.list u=>(CG.lookup x).map .bi
 |.tup q=>none
 |.dict u u2=>(CJ.lookup x).map .bi
 |.set u=>(GP.lookup x).map .bi
 |.bset q=>none
 |.inst d=>(Y.dict? d).bind λ p=>if p.1.all (λ p=>fP.contains p.1)=true then(yj.lookup x).map .user else none
 |.node q q1|.cell q|.liter q q1|.eit q q1|.bnext q|.rng q|.enum q q1|.mapo q q1|.view q|.any=>none
noncomputable def pR(ov:V)(x:Str)(Y:St):Option vA:=match ov with
 |.none|.bool q|.int q=>none
 |.str u=>(GK.lookup x).map .bi
 |.ref i=>(Y.sto[i]?).bind (afc x Y)
 |.fn q|.bi q=>none
noncomputable def aU:Str:="/"
noncomputable def p8(x y:Str):Bool:=decide (x.cps.toList < y.cps.toList)
noncomputable def fj:List Str->List Str->Bool
 |_,[]=>false
 |[],_::_=>true
 |x::xs,y::ys=>if x==y then fj xs ys else p8 x y
noncomputable def gG(xs:List Str):List Str:=xs.mergeSort λ a b=>!p8 b a
noncomputable def dI(xs:List Str):Nat:=(xs.map Str.length).sum
noncomputable def xG(x y:Str)(k:aC V):aC V:=if y==aU&&small x.length then k else .bad
noncomputable def aaP(sep:Str)(a:V)(Y:St):aC V:=onS a.ref? λ l=>onS (Y.list? l) λ xs=>onS (jP xs) λ ss=>grd (sep==aU&&small ss.length&&small (dI ss)) (.ok (.str (Str.join sep ss)) Y)
noncomputable def ajQ(m:Me)(x y:Str)(Y:St):aC V:=match m with
 |.join=>.bad
 |.split=>xG x y (Y.new (.list ((dJ x y).map .str)))
 |.startswith=>xG x y (.ok (.bool (gK x y)) Y)
 |.endswith=>xG x y (.ok (.bool (lM x y)) Y)
 |.rfind=>xG x y (.ok (.int (nM x y)) Y)
 |.rstrip=>xG x y (.ok (.str (w7 x y)) Y)
 |.lstrip=>xG x y (.ok (.str (mF x y)) Y)
 |.append|.pop|.clear|.get|.values|.add=>.bad
noncomputable def ajR(m:Me)(x:Str)(a:V)(Y:St):aC V:=match a with
 |.none|.bool q|.int q=>.bad
 |.str y=>ajQ m x y Y
 |.ref l=>if m=.join then aaP x (.ref l) Y else .bad
 |.fn q|.bi q=>.bad
noncomputable def ajS(m:Me)(l:Nat)(xs:List V)(Y:St):aC V:=match m with
 |.join|.split|.startswith|.endswith|.rfind|.rstrip|.lstrip|.append=>.bad
 |.pop=>onS xs.getLast? λ v=>Y.mut l (.list xs.dropLast) v
 |.clear=>Y.mut l (.list []) .none
 |.get|.values|.add=>.bad
noncomputable def ajT(m:Me)(l:Nat)(Y:St):O->aC V
 |.list xs=>grd (small xs.length) (ajS m l xs Y)
 |.tup q=>.bad
 |.dict u u2=>grd (decide (m=.values)) (Y.new (.view l))
 |.set q|.bset q|.inst q|.node q q1|.cell q|.liter q q1|.eit q q1|.bnext q|.rng q|.enum q q1|.mapo q q1|.view q|.any=>.bad
noncomputable def agC(m:Me)(l:Nat)(Y:St):aC V:=onS (Y.sto[l]?) (ajT m l Y)
noncomputable def ajU(m:Me)(l:Nat)(v:V)(Y:St):O->aC V
 |.list xs=>grd (decide (m=.append/\small xs.length=true)) (Y.mut l (.list (xs++[v])) .none)
 |.tup q=>.bad
 |.dict kvs u=>onS v.str? λ x=>grd (decide (m=.get)) (.ok ((kvs.lookup x).getD .none) Y)
 |.set xs=>onS v.str? λ x=>grd (decide (m=.add/\xs.length < 4000)) (Y.mut l (.set (if xs.contains x then xs else xs++[x])) .none)
 |.bset q|.inst q|.node q q1|.cell q|.liter q q1|.eit q q1|.bnext q|.rng q|.enum q q1|.mapo q q1|.view q|.any=>.bad
noncomputable def agD(m:Me)(l:Nat)(v:V)(Y:St):aC V:=onS (Y.sto[l]?) (ajU m l v Y)
noncomputable def ajV(m:Me)(Y:St)(v:V):aC V:=onS v.ref? λ l=>agC m l Y
noncomputable def ajW(m:Me)(v:V)(Y:St)(ov:V):aC V:=match ov with
 |.none|.bool q|.int q=>.bad
 |.str x=>ajR m x v Y
 |.ref l=>agD m l v Y
 |.fn q|.bi q=>.bad
noncomputable def gH(m:Me)(ov:V)(args:List V)(Y:St):aC V:=match args with
 |[]=>ajV m Y ov
 |[v]=>ajW m v Y ov
 |_::_::_=>.bad
noncomputable def agE:O->Option Bi
 |.list u=>some .list
 |.tup u=>some .tuple
 |.dict q q1|.set q|.bset q|.inst q|.node q q1|.cell q|.liter q q1|.eit q q1|.bnext q|.rng q|.enum q q1|.mapo q q1|.view q|.any=>none
noncomputable def JW(v:V)(Y:St):Option Bi:=match v with
 |.none|.bool q|.int q=>.none
 |.str u=>some .str
 |.ref i=>Y.get i agE
 |.fn q|.bi q=>.none
open Classical in
noncomputable def JX(f m kt l k i:Nat)(xs:List V)(Y:St):Bool:=decide (Y.sto[m]?=some (.mapo f kt)/\Y.sto[kt]?=some (.tup [.ref k])/\Y.sto[k]?=some (.eit l i)/\Y.sto[l]?=some (.list xs))
noncomputable def jT(cl:Nat->List V->St->aC V)(f m kt l k:Nat)(xs:List V):Nat->List V->St->aC (List V)
 |i,[],Y=>if JX f m kt l k i xs Y then .ok [] (Y.upd k .any)else .bad
 |i,x::r,Y=>if JX f m kt l k i xs Y then(cl f [x] (Y.upd k (.eit l (i+1)))).bindN λ y Y=>(jT cl f m kt l k xs (i+1) r Y).bindN λ ys Y=>.ok (y::ys) Y else .bad
noncomputable def alN(Y:St)(v:V):aC V:=match v with
 |.none|.bool q|.int q=>.bad
 |.str x=>if small x.length then .ok (.int x.length) Y else .bad
 |.ref l=>onS (Y.get l O.seq?) λ xs=>if small xs.length then .ok (.int xs.length) Y else .bad
 |.fn q|.bi q=>.bad
noncomputable def zH(args:List V)(Y:St):aC V:=onS (rm args) (alN Y)
open Classical in
noncomputable def afd(v u:V)(Y:St):aC V:=match u with
 |.none|.bool q|.int q|.str q=>.bad
 |.ref t=>if JW v Y=some .list/\Y.sto[t]?=some (.tup [.bi .list,.bi .tuple])then .ok (.bool true) Y else .bad
 |.fn q=>.bad
 |.bi b=>onS v.str? λ _=>if b=.bytes then .ok (.bool false) Y else .bad
noncomputable def nR(args:List V)(Y:St):aC V:=onS (Jq args) λ p=>afd p.1 p.2 Y
open Classical in
noncomputable def Tr(args:List V)(Y:St):aC V:=onS (Jq args) λ p=>onS p.2.ref? λ t=>if p.1=.bi .str/\Y.sto[t]?=some (.tup [.bi .str,.bi .bytes])then .ok (.bool true) Y else .bad
noncomputable def Ac(cl:Nat->List V->St->aC V)(m f kt:Nat)(Y:St):aC V:=onS ((Y.get kt O.tup?).bind rm) λ u=>onS u.ref? λ k=>onS (Y.get k O.eit?) λ p=>onS (Y.list? p.1) λ xs=>
 grd (small xs.length&&decide (k0<=k)&&decide (p.2=0)) ((jT cl f m kt p.1 k xs 0 xs Y).bindN λ ys Y=>Y.new (.tup ys))
noncomputable def alO(cl:Nat->List V->St->aC V)(m:Nat)(Y:St)(o:O):aC V:=match o with
 |.list xs=>if small xs.length then Y.new (.tup xs)else .bad
 |.tup q|.dict q q1|.set q|.bset q|.inst q|.node q q1|.cell q|.liter q q1|.eit q q1|.bnext q|.rng q|.enum q q1=>.bad
 |.mapo f kt=>Ac cl m f kt Y
 |.view q|.any=>.bad
noncomputable def ajX(cl:Nat->List V->St->aC V)(args:List V)(Y:St):aC V:=onS (rm args) λ v=>onS v.ref? λ m=>onS (Y.sto[m]?) (alO cl m Y)
noncomputable def Ad(args:List V)(Y:St)(k:Nat->List V->aC V):aC V:=onS (rm args) λ v=>onS v.ref? λ l=>onS (Y.list? l) (k l)
noncomputable def aaQ(o:O):Option (List Str):=match o with
 |.list q=>none
 |.tup xs=>jP xs
 |.dict kvs u=>some (kvs.map (·.1))
 |.set q|.bset q|.inst q|.node q q1|.cell q|.liter q q1|.eit q q1|.bnext q|.rng q|.enum q q1|.mapo q q1|.view q|.any=>none
noncomputable def vB(args:List V)(Y:St):aC V:=onS (rm args) λ v=>onS v.ref? λ l=>onS (Y.get l aaQ) λ ss=>if ss.length < 64 then Y.new (.list ((gG ss).map .str))else .bad
noncomputable def yo(Y:St)(a:Nat):Option (List Str):=(Y.list? a).bind jP
noncomputable def GQ(gt:Bool)(args:List V)(Y:St):aC V:=Ad args Y λ _ vs=>onS (Jq vs) λ p=>onS p.1.ref? λ a=>onS p.2.ref? λ b=>onS (yo Y a) λ x=>onS (yo Y b) λ y=>.ok (.ref (if(if gt then fj x y else fj y x)then b else a)) Y
noncomputable def ajY(args:List V)(Y:St):aC V:=onS (Jq args) λ p=>onS p.1.fn? λ f=>onS p.2.ref? λ l=>onS (Y.list? l) λ _=>({Y with sto:=Y.sto++[.eit l 0,.tup [.ref Y.sto.length]]}:St).new (.mapo f (Y.sto.length+1))
noncomputable def agF(args:List V):Option (Int×Int):=(Jq args).bind λ p=>p.1.int?.bind λ i=>p.2.int?.map (i,·)
noncomputable def Qm(args:List V)(Y:St):aC V:=match agF args with
 |some p=>.ok (.int (if p.2 < p.1 then p.2 else p.1)) Y
 |none=>GQ false args Y
noncomputable def ahD(args:List V)(Y:St):aC V:=onS (rm args) λ v=>onS v.int? λ i=>.ok (.int (if i < 0 then -i else i)) Y
noncomputable def CK(args:List V)(Y:St):aC V:=onS (rm args) λ v=>onS v.int? λ n=>if 0<=n/\n<=1000 then Y.new (.rng n)else .bad
noncomputable def aaR(args:List V)(Y:St):aC V:=onS (rm args) λ v=>onS (JW v Y) λ b=>.ok (.bi b) Y
noncomputable def gq(cl:Nat->List V->St->aC V)(f:Bi)(args:List V)(Y:St):aC V:=match f with
 |.abs=>ahD args Y
 |.len=>zH args Y
 |.sorted=>vB args Y
 |.iter=>Ad args Y λ l _=>Y.new (.liter l 0)
 |.issubclass=>Tr args Y
 |.isinstance=>nR args Y
 |.min=>Qm args Y
 |.max=>GQ true args Y
 |.range=>CK args Y
 |.tuple=>ajX cl args Y
 |.bool=>Ad args Y λ _ xs=>if small xs.length then .ok (.bool (!xs.isEmpty)) Y else .bad
 |.set=>if args.isEmpty then Y.new (.set [])else .bad
 |.type=>aaR args Y
 |.str|.bytes|.list=>.bad
 |.map=>ajY args Y
 |.enumerate=>Ad args Y λ l _=>({Y with sto:=Y.sto++[.eit l 0]}:St).new (.enum Y.sto.length 0)
noncomputable def Ae(it l i:Nat)(xs:List V)(Y:St):aC V:=match xs[i]? with
 |some v=>Y.mut it (.liter l (i+1)) v
 |none=>if k0<=it then .exc .stop (Y.upd it .any)else .bad
noncomputable def JZ(k:Nat)(Y:St):aC V:=onS (Y.get k O.bnext?) λ it=>onS (Y.get it O.liter?) λ p=>onS (Y.list? p.1) λ xs=>grd (small xs.length) (Ae it p.1 p.2 xs Y)
noncomputable def GR(cl:Nat->List V->St->aC V)(en:En)(f:V)(args:List V)(Y:St):aC V:=match f with
 |.none|.bool q|.int q|.str q=>.bad
 |.ref k=>if en.free&&en.own&&args.isEmpty then JZ k Y else .bad
 |.fn a=>if en.free&&en.own then cl a args Y else .bad
 |.bi b=>if en.free&&en.own then gq cl b args Y else .bad
noncomputable def CN(cl:Nat->List V->St->aC V)(en:En)(c:vA)(ov:V)(args:List V)(Y:St):aC V:=match c with
 |.user f=>if en.free&&en.own then cl f (ov::args) Y else .bad
 |.bi m=>gH m ov args Y
noncomputable def Tt(Y:St):O->Option (List V)
 |.list xs=>if small xs.length then some xs else none
 |.tup xs=>if small xs.length then some xs else none
 |.dict kvs u=>if small kvs.length then some (kvs.map λ p=>.str p.1)else none
 |.set q|.bset q|.inst q|.node q q1|.cell q|.liter q q1|.eit q q1|.bnext q=>none
 |.rng n=>some ((gj n.toNat).map λ k:Nat=>V.int (k:Int))
 |.enum q q1|.mapo q q1=>none
 |.view d=>(Y.dict? d).bind λ p=>if small p.1.length then some (p.1.map (·.2))else none
 |.any=>none
noncomputable def fD(v:V)(Y:St):Option (List V):=match v with
 |.none|.bool q|.int q|.str q=>none
 |.ref i=>(Y.sto[i]?).bind (Tt Y)
 |.fn q|.bi q=>none
open Classical in
noncomputable def aaS(i:Nat)(Y τ:St):Bool:=decide (τ.sto[i]?=Y.sto[i]?)&&(match Y.get i O.view? with
 |some d=>decide (τ.sto[d]?=Y.sto[d]?)
 |none=>true)
noncomputable def cW(v:V)(Y τ:St):Bool:=match v.ref? with
 |some i=>aaS i Y τ
 |none=>false
set_option tactic.hygienic true in
noncomputable def qJ(ok:St->Bool)(body:V->St->aC Fl):List V->St->aC Fl
 |[],Y=>if ok Y then .ok .next Y else .bad
 |v::r,Y=>if ok Y then(body v Y).bindN λ fl Y=>match fl with
   |.next|.cont=>qJ ok body r Y
   |.brk=>.ok .brk Y
   |.ret v=>.ok (.ret v) Y
  else .bad
set_option tactic.hygienic true in
noncomputable def nT(test:St->aC Bool)(body orelse:St->aC Fl):Nat->St->aC Fl
 |0,_=>.bad
 |n+1,Y=>(test Y).bindN λ b Y=>if b then(body Y).bindN λ fl Y=>match fl with
   |.next|.cont=>nT test body orelse n Y
   |.brk=>.ok .next Y
   |.ret v=>.ok (.ret v) Y
  else(orelse Y).bindN λ f Y=>.ok f Y
noncomputable def J6(en:En)(scope:Scope):Scope:={scope with names:=scope.names.map λ(n,k)=>if k== .free&&en.scope.names.lookup n==some .cell then(n,.cell)else(n,k)}
noncomputable def J7(en:En)(scope:Scope):Option (List (Str×Nat)):=(scope.names.filter λ p=>p.2== .free).mapM λ p=>if en.scope.names.lookup p.1==some .cell then(en.cells.lookup p.1).map (p.1,·)else none
noncomputable def GX(en:En)(scope:Scope):Option En:=if scope.kind== .function&&scope.names.all (λ p=>p.2 != .cell&&(p.2 != .local||scope.names.lookup p.1==some .local))then(J7 en scope).map λ cs=>{scope:=J6 en scope,cells:=cs.reverse,free:=en.free,own:=false}else none
noncomputable def ahE(isl:Bool)(y:V):O->Option O
 |.list ys=>if(isl&&small ys.length)=true then some (.list (ys++[y]))else none
 |.tup q|.dict q q1|.set q=>none
 |.bset bs=>y.bool?.bind λ b=>if(!isl&&decide (bs=[]\/bs=[b]))=true then some (.bset (if bs.contains b then bs else bs++[b]))else none
 |.inst q|.node q q1|.cell q|.liter q q1|.eit q q1|.bnext q|.rng q|.enum q q1|.mapo q q1|.view q|.any=>none
noncomputable def lX(isl:Bool)(ok:St->Bool)(x:Str)(ifs:St->aC Bool)(elt:St->aC V)(acc:Nat):List V->St->aC Unit
 |[],Y=>grd (ok Y) (.ok () Y)
 |v::r,Y=>grd (ok Y) ((ifs {Y with loc:=dH Y.loc x v}).bindN λ b Y=>if b then(elt Y).bindN λ y Y=>onS ((Y.sto[acc]?).bind (ahE isl y)) λ o=>grd (decide (k0<=acc)) (lX isl ok x ifs elt acc r (Y.upd acc o))
   else lX isl ok x ifs elt acc r Y)
noncomputable def jl:Gi->Str
 |.stop=>"StopIteration"
 |.cyc=>"CycleError"
section
variable (cl:Nat->List V->St->aC V)
noncomputable def Tv:Const->St->aC V
 |.none,Y=>.ok .none Y
 |.bool b,Y=>.ok (.bool b) Y
 |.int i,Y=>.ok (.int i) Y
 |.str s,Y=>.ok (.str s) Y
 |_,_=>.bad
noncomputable def jm(o:Option V)(Y:St):aC V:=onS o λ v=>.ok v Y
noncomputable def bA(o:Option Bool)(Y:St):aC Bool:=onS o λ b=>.ok b Y
noncomputable def mJ(ev:Expr->En->St->aC V):List Expr->En->St->aC (List V)
 |[],_,Y=>.ok [] Y
 |e::r,en,Y=>(ev e en Y).bind λ v Y=>(mJ ev r en Y).bind λ vs Y=>.ok (v::vs) Y
noncomputable def agG(op:BoolOp)(t:Bool):Bool:=match op with
 |.And=>!t
 |.Or=>t
noncomputable def aaT(ev:Expr->En->St->aC V)(op:BoolOp):List Expr->En->St->aC V
 |[],_,_=>.bad
 |[e],en,Y=>ev e en Y
 |e::r,en,Y=>(ev e en Y).bind λ v Y=>(bA (cL v Y) Y).bind λ t Y=>if agG op t then .ok v Y else aaT ev op r en Y
noncomputable def MJ(te:Expr->En->St->aC Bool)(op:BoolOp):List Expr->En->St->aC Bool
 |[],_,Y=>.ok (op== .And) Y
 |e::r,en,Y=>(te e en Y).bind λ t Y=>if agG op t then .ok t Y else MJ te op r en Y
noncomputable def Tw(ev:Expr->En->St->aC V):Option Expr->En->St->aC V
 |none,_,Y=>.ok .none Y
 |some e,en,Y=>ev e en Y
set_option genInjectivity false in
set_option genSizeOf false in
inductive EV where
 |name (x:Str)|attr (o:Expr) (a:Str) (p:Pos)|sub (o i:Expr)|tup (es:List Expr)|call (f:Expr) (as:List Expr) (ks:List Keyword)|slice (lo hi st:Option Expr)|comp|set|star|other
noncomputable def view(e:Expr):EV:=match e with
 |.BoolOp q q1 q2|.NamedExpr q q1 q2|.BinOp q q1 q2 q3|.UnaryOp q q1 q2|.Lambda q q1 q2 q3|.IfExp q q1 q2 q3|.Dict q q1 q2=>.other
 |.Set u u2 u3=>.set
 |.ListComp u u2 u3 u4=>.comp
 |.SetComp u u2 u3 u4=>.comp
 |.DictComp u u2 u3 u4 u5=>.comp
 |.GeneratorExp q q1 q2 q3|.Await q q1|.Yield q q1|.YieldFrom q q1|.Compare q q1 q2 q3=>.other
 |.Call f a k u=>.call f a k
 |.FormattedValue q q1 q2 q3|.JoinedStr q q1|.Constant q q1 q2=>.other
 |.Attribute o a p=>.attr o a p
 |.Subscript o i u=>.sub o i
 |.Starred u u2=>.star
 |.Name x u=>.name x
 |.List q q1=>.other
 |.Tuple es u u2=>.tup es
 |.Slice lo hi st u=>.slice lo hi st
noncomputable def EV.Is:EV->Expr->Prop
 |.name x=>λ e=>∃p,e=.Name x p
 |.attr o a p=>λ e=>e=.Attribute o a p
 |.sub o i=>λ e=>∃p,e=.Subscript o i p
 |.tup es=>λ e=>∃c p,e=.Tuple es c p
 |.call f a k=>λ e=>∃p,e=.Call f a k p
 |.slice lo hi st=>λ e=>∃p,e=.Slice lo hi st p
 |.comp|.set|.star|.other=>λ _=>True
theorem qK(e:Expr):(view e).Is e:=by
 induction e using PySem.Expr.casesOn<;>first|trivial|exact⟨_,rfl⟩|exact⟨_,_,rfl⟩|rfl
noncomputable def EV.tag:EV->Nat
 |.name _=>0
 |.attr .. =>1
 |.sub .. =>2
 |.tup _=>3
 |.call .. =>4
 |.slice .. =>5
 |.comp=>6
 |.set=>7
 |.star=>8
 |.other=>9
noncomputable def EV.name?:EV->Option Str
 |.name x=>some x
 |.attr q q1 q2|.sub q q1|.tup q|.call q q1 q2|.slice q q1 q2|.comp|.set|.star|.other=>none
noncomputable def EV.sub?:EV->Option (Expr×Expr)
 |.name q|.attr q q1 q2=>none
 |.sub o i=>if yZ (view i).tag 5 then none else some (o,i)
 |.tup q|.call q q1 q2|.slice q q1 q2|.comp|.set|.star|.other=>none
noncomputable def EV.tup?:EV->Option (List Expr)
 |.name q|.attr q q1 q2|.sub q q1=>none
 |.tup es=>some es
 |.call q q1 q2|.slice q q1 q2|.comp|.set|.star|.other=>none
noncomputable def EV.plain:EV->Bool
 |.name q|.attr q q1 q2|.sub q q1|.tup q=>true
 |.call f as ks=>!((view f).name?.isSome&&as.isEmpty&&ks.isEmpty)
 |.slice q q1 q2|.comp|.set|.star|.other=>true
noncomputable def EV.call2:EV->Option (Str×List Expr)
 |.name q|.attr q q1 q2|.sub q q1|.tup q=>none
 |.call f as ks=>if ks.isEmpty&&as.length==2 then(view f).name?.map λ x=>(x,as)else none
 |.slice q q1 q2|.comp|.set|.star|.other=>none
noncomputable def nU(e:Expr):Option Str:=(view e).name?
noncomputable def pW:List Expr->Option (List Str)
 |[]=>some []
 |e::r=>(nU e).bind λ x=>(pW r).map (x::·)
noncomputable def Af(e:Expr):Bool:=yZ (view e).tag 5
noncomputable def aaU(e:Expr):Option (Expr×Expr):=(view e).sub?
noncomputable def aaV(e:Expr):Option (List Expr):=(view e).tup?
noncomputable def Qn(e:Expr):Bool:=yZ (view e).tag 3
noncomputable def alP(g:Comprehension):Option (Str×Expr×List Expr):=if g.is_async=0 then(nU g.target).map λ x=>(x,g.iter,g.ifs)else none
noncomputable def agH(gs:List Comprehension):Option (Str×Expr×List Expr):=(rm gs).bind alP
noncomputable def Tz(e:Expr):Bool:=yZ (view e).tag 4
noncomputable def wJ(e:Expr):Bool:=yZ (view e).tag 7
noncomputable def MK(e:Expr):Bool:=yZ (view e).tag 6
noncomputable def yp(e:Expr):Bool:=(view e).plain
noncomputable def zJ:List Expr->Bool
 |[]=>true
 |e::r=>cond (yZ (view e).tag 8) false (zJ r)
noncomputable def WM(ev:Expr->En->St->aC V)(f:Expr)(args:List Expr)(en:En)(Y:St):aC V:=
 if zJ args then(ev f en Y).bind λ fv Y=>(mJ ev args en Y).bind λ vs Y=>GR cl en fv vs Y else .bad
noncomputable def WN(op:UnaryOp)(a:V)(Y:St):aC V:=match op with
 |.Invert=>.bad
 |.Not=>(bA (cL a Y) Y).bind λ t Y=>.ok (.bool !t) Y
 |.UAdd=>.bad
 |.USub=>(match a with|.int i=>.ok (.int (-i)) Y|_=>.bad)
noncomputable def CP(isl:Bool):O:=if isl then .list []else .bset []
noncomputable def kh(isl:Bool)(x:Str)(ifs:St->aC Bool)(elt:St->aC V)(v:V)(Y:St):aC V:=match fD v Y with
 |some xs=>(lX isl (cW v Y) x ifs elt Y.sto.length xs {loc:=[],sto:=Y.sto++[CP isl]}).bindN λ _ τ=>.ok (.ref Y.sto.length) {loc:=Y.loc,sto:=τ.sto}
 |none=>.bad
noncomputable def sZ(isl:Bool)(te:Expr->En->St->aC Bool)(ev:Expr->En->St->aC V)(x:Str)(iter elt:Expr)(ifs:List Expr)(scope:Scope)(en:En)(v:V)(Y:St):aC V:=match GX en scope with
 |some cen=>if en.free&&!wJ iter&&(cen.scope.names.lookup x==some .local)then kh isl x (MJ te .And ifs cen) (ev elt cen) v Y else .bad
 |none=>.bad
noncomputable def Es(isl:Bool)(ev:Expr->En->St->aC V)(te:Expr->En->St->aC Bool)(elt:Expr)(gens:List Comprehension)(scope:Scope)(en:En)(Y:St):aC V:=match agH gens with
 |some (x,iter,ifs)=>(ev iter en Y).bind (sZ isl te ev x iter elt ifs scope en)
 |none=>.bad
noncomputable def GZ{α:Type}(ev:Expr->En->St->aC V)(l r:Expr)(en:En)(k:V->V->St->aC α)(Y:St):aC α:=(ev l en Y).bind λ a Y=>(ev r en Y).bind λ b Y=>k a b Y
noncomputable def afe{α:Type}(ev:Expr->En->St->aC V)(l:Expr)(ops:List CmpOp)(rs:List Expr)(en:En)(k:Bool->St->aC α)(Y:St):aC α:=onS (rm ops) λ op=>onS (rm rs) λ r=>if wJ r then .bad else GZ ev l r en (λ a b Y=>(bA (zG op a b Y) Y).bind k) Y
noncomputable def aaW(ev:Expr->En->St->aC V)(o:Expr)(name:Str)(apos pos:Pos)(args:List Expr)(en:En)(Y:St):aC V:=
 if zJ args&&yp o&&decide (args.length < 30)&&apos.endLine==pos.line then(ev o en Y).bind λ ov Y=>match pR ov name Y with
    |some c=>(mJ ev args en Y).bind λ vs Y=>CN cl en c ov vs Y
    |none=>.bad
   else .bad
noncomputable def aaX(ev:Expr->En->St->aC V)(f:Expr)(args:List Expr)(pos:Pos)(en:En)(Y:St):aC V:=match view f with
 |.name u=>WM cl ev f args en Y
 |.attr o name apos=>aaW cl ev o name apos pos args en Y
 |.sub u u2=>WM cl ev f args en Y
 |.tup q|.call q q1 q2|.slice q q1 q2|.comp|.set|.star|.other=>.bad
noncomputable def aaY(ev:Expr->En->St->aC V)(o:Expr)(lo hi st:Option Expr)(en:En)(Y:St):aC V:=if st.isSome then .bad else
 (ev o en Y).bind λ ov Y=>(Tw ev lo en Y).bind λ l Y=>(Tw ev hi en Y).bind λ h Y=>onS (rz l) λ l=>onS (rz h) λ h=>MF ov l h Y
noncomputable def ahF(ev:Expr->En->St->aC V)(o i:Expr)(en:En)(Y:St):aC V:=match view i with
 |.name q|.attr q q1 q2|.sub q q1|.tup q|.call q q1 q2=>GZ ev o i en (λ ov iv Y=>jm (iz ov iv Y) Y) Y
 |.slice lo hi st=>aaY ev o lo hi st en Y
 |.comp|.set|.star|.other=>GZ ev o i en (λ ov iv Y=>jm (iz ov iv Y) Y) Y
noncomputable def WQ(ev:Expr->En->St->aC V)(es:List Expr)(en:En)(mk:List V->O)(Y:St):aC V:=if zJ es&&small es.length then(mJ ev es en Y).bind λ vs Y=>Y.new (mk vs)else .bad
noncomputable def aaZ(ev:Expr->En->St->aC V)(te:Expr->En->St->aC Bool)(e:Expr)(en:En)(Y:St):aC V:=match e with
  |.BoolOp op es u=>aaT ev op es en Y
  |.NamedExpr t v u=>(match nU t with
   |some x=>(ev v en Y).bind λ a Y=>(gF en x a Y).bind λ _ Y=>.ok a Y
   |none=>.bad)
  |.BinOp l op r u=>GZ ev l r en (nQ op) Y
  |.UnaryOp op x u=>(ev x en Y).bind (WN op)
  |.Lambda q q1 q2 q3=>.bad
  |.IfExp t b o u=>(te t en Y).bind λ c Y=>if c then ev b en Y else ev o en Y
  |.Dict ks vs u=>if ks.isEmpty&&vs.isEmpty then Y.new (.dict [] 0)else .bad
  |.Set q q1 q2=>.bad
  |.ListComp elt gens scope u=>Es true ev te elt gens scope en Y
  |.SetComp elt gens scope u=>Es false ev te elt gens scope en Y
  |.DictComp q q1 q2 q3 q4|.GeneratorExp q q1 q2 q3|.Await q q1|.Yield q q1|.YieldFrom q q1=>.bad
  |.Compare l ops rs u=>afe ev l ops rs en (λ t Y=>.ok (.bool t) Y) Y
  |.Call f args kws pos=>if kws.isEmpty then aaX cl ev f args pos en Y else .bad
  |.FormattedValue q q1 q2 q3=>.bad
  |.JoinedStr es u=>(match es with
   |[e]=>ev e en Y
   |_=>.bad)
  |.Constant c u u2=>Tv c Y
  |.Attribute o a u=>if yp o then(ev o en Y).bind λ ov Y=>fu ov a Y else .bad
  |.Subscript o i u=>ahF ev o i en Y
  |.Starred q q1=>.bad
  |.Name id u=>if id==("__debug__":Str)then .bad else Qj en id Y
  |.List es u=>WQ ev es en .list Y
  |.Tuple es u u2=>WQ ev es en .tup Y
  |.Slice q q1 q2 q3=>.bad
noncomputable def TG(ev:Expr->En->St->aC V)(e:Expr)(en:En)(Y:St):aC Bool:=(ev e en Y).bind λ a Y=>bA (cL a Y) Y
noncomputable def aa0(ev:Expr->En->St->aC V)(te:Expr->En->St->aC Bool)(e:Expr)(en:En)(Y:St):aC Bool:=match e with
  |.BoolOp op es u=>MJ te op es en Y
  |.NamedExpr q q1 q2|.BinOp q q1 q2 q3=>TG ev e en Y
  |.UnaryOp op x u=>if op== .Not then(te x en Y).bind λ t Y=>.ok (!t) Y else TG ev e en Y
  |.Lambda q q1 q2 q3=>TG ev e en Y
  |.IfExp u u2 u3 u4=>.bad
  |.Dict q q1 q2|.Set q q1 q2|.ListComp q q1 q2 q3|.SetComp q q1 q2 q3|.DictComp q q1 q2 q3 q4|.GeneratorExp q q1 q2 q3|.Await q q1|.Yield q q1|.YieldFrom q q1=>TG ev e en Y
  |.Compare l ops rs u=>afe ev l ops rs en (λ t Y=>.ok t Y) Y
  |.Call q q1 q2 q3|.FormattedValue q q1 q2 q3|.JoinedStr q q1|.Constant q q1 q2|.Attribute q q1 q2|.Subscript q q1 q2|.Starred q q1|.Name q q1|.List q q1|.Tuple q q1 q2|.Slice q q1 q2 q3=>TG ev e en Y
noncomputable def Ka:Nat->(Expr->En->St->aC V)×(Expr->En->St->aC Bool)
 |0=>(λ _ _ _=>.bad,λ _ _ _=>.bad)
 |n+1=>(aaZ cl (Ka n).1 (Ka n).2,aa0 (Ka n).1 (Ka n).2)
noncomputable def jj(n:Nat):Expr->En->St->aC V:=(Ka cl n).1
noncomputable def Et(n:Nat):Expr->En->St->aC Bool:=(Ka cl n).2
theorem ahG(n:Nat):jj cl (n+1)=aaZ cl (jj cl n) (Et cl n):=rfl
theorem ahH(n:Nat):Et cl (n+1)=aa0 (jj cl n) (Et cl n):=rfl
end
section
variable (cl:Nat->List V->St->aC V)
noncomputable def afg(xs:List Str)(en:En)(Y:St):O->aC Unit
 |.list q=>.bad
 |.tup vs=>onS (GF vs) λ v=>onS (GF xs) λ x=>(gF en x.1 v.1 Y).bind λ _ Y=>(gF en x.2.1 v.2.1 Y).bind λ _ Y=>gF en x.2.2 v.2.2 Y
 |.dict q q1|.set q=>.bad
 |.bset bs=>onS (rm bs) λ b=>onS (rm xs) λ x=>gF en x (.bool b) Y
 |.inst q|.node q q1|.cell q|.liter q q1|.eit q q1|.bnext q|.rng q|.enum q q1|.mapo q q1|.view q|.any=>.bad
noncomputable def WR(xs:List Str)(v:V)(en:En)(Y:St):aC Unit:=onS v.ref? λ i=>onS (Y.sto[i]?) (afg xs en Y)
noncomputable def MN(n:Nat)(t:Expr)(v:V)(en:En)(Y:St):aC Unit:=match view t with
 |.name x=>gF en x v Y
 |.attr o a u=>(jj cl n o en Y).bind λ ov Y=>(dz ov a v Y).bind λ _ Y=>.ok () Y
 |.sub o i=>if Af i then .bad else GZ (jj cl n) o i en (λ ov iv Y=>(p7 ov iv v Y).bind λ _ Y=>.ok () Y) Y
 |.tup es=>if en.free then onS (pW es) λ xs=>WR xs v en Y else .bad
 |.call q q1 q2|.slice q q1 q2|.comp|.set|.star|.other=>.bad
noncomputable def nW(n:Nat):List Expr->V->En->St->aC Unit
 |[],_,_,Y=>.ok () Y
 |t::r,v,en,Y=>(MN cl n t v en Y).bind λ _ Y=>nW n r v en Y
set_option tactic.hygienic true in
noncomputable def bY(ex:Stmt->En->St->aC Fl):List Stmt->En->St->aC Fl
 |[],_,Y=>.ok .next Y
 |s::r,en,Y=>(ex s en Y).bind λ fl Y=>match fl with
  |.next=>bY ex r en Y
  |f=>.ok f Y
open Classical in
set_option tactic.hygienic true in
noncomputable def lY(e k l:Nat)(xs:List V)(body:Nat->V->St->aC Fl):Nat->List V->St->aC Fl
 |i,[],Y=>if Y.sto[e]?=some (.enum k i)/\Y.sto[k]?=some (.eit l i)/\Y.sto[l]?=some (.list xs)then .ok .next (Y.upd k .any)else .bad
 |i,v::r,Y=>if Y.sto[e]?=some (.enum k i)/\Y.sto[k]?=some (.eit l i)/\Y.sto[l]?=some (.list xs)then(body i v ((Y.upd k (.eit l (i+1))).upd e (.enum k (i+1)))).bindN λ fl Y=>match fl with
   |.next|.cont=>lY e k l xs body (i+1) r Y
   |.brk=>.ok .brk Y
   |.ret v=>.ok (.ret v) Y
  else .bad
set_option tactic.hygienic true in
noncomputable def jq(r:aC Fl)(o:St->aC Fl):aC Fl:=r.bindN λ fl Y=>match fl with
 |.next=>(o Y).bindN λ f Y=>.ok f Y
 |.brk=>.ok .next Y
 |f=>.ok f Y
noncomputable def ahI(n:Nat)(t:Expr)(op:Operator)(e:Expr)(en:En)(Y:St):aC Fl:=match view t with
 |.name x=>(Qj en x Y).bind λ old Y=>(jj cl n e en Y).bind λ v Y=>(sY op old v Y).bind λ w Y=>(gF en x w Y).bind λ _ Y=>.ok .next Y
 |.attr o a u=>(jj cl n o en Y).bind λ ov Y=>(fu ov a Y).bind λ old Y=>(jj cl n e en Y).bind λ v Y=>(sY op old v Y).bind λ w Y=>(dz ov a w Y).bind λ _ Y=>.ok .next Y
 |.sub q q1|.tup q|.call q q1 q2|.slice q q1 q2|.comp|.set|.star|.other=>.bad
noncomputable def ajZ(n:Nat)(ts:List Expr)(en:En)(Y:St):aC Fl:=onS (rm ts) λ t=>onS (aaU t) λ p=>GZ (jj cl n) p.1 p.2 en (λ ov iv Y=>(Ab ov iv Y).bind λ _ Y=>.ok .next Y) Y
noncomputable def ahJ(ex:Stmt->En->St->aC Fl)(x:Str)(b o:List Stmt)(en:En)(v:V)(Y:St):aC Fl:=match fD v Y with
 |some xs=>jq (qJ (cW v Y) (λ c Y=>(gF en x c Y).bind λ _ Y=>bY ex b en Y) xs Y) (bY ex o en)
 |none=>.bad
noncomputable def MT(i:Nat)(Y:St):Option (Nat×Nat×List V):=(Y.get i O.enum?).bind λ p=>if p.2=0 then(Y.get p.1 O.eit?).bind λ q=>if q.2=0 then(Y.list? q.1).map λ xs=>(p.1,q.1,xs)else none else none
noncomputable def agI(ex:Stmt->En->St->aC Fl)(x y:Str)(b o:List Stmt)(en:En)(v:V)(Y:St):aC Fl:=onS v.ref? λ i=>onS (MT i Y) λ p=>grd (small p.2.2.length&&decide (k0<=i)&&decide (k0<=p.1)&&!(x==y)) (jq (lY i p.1 p.2.1 p.2.2 (λ j c Y=>(gF en x (.int j) Y).bind λ _ Y=>(gF en y c Y).bind λ _ Y=>bY ex b en Y) 0 p.2.2 Y) (bY ex o en))
noncomputable def ahK(n:Nat)(ex:Stmt->En->St->aC Fl)(t it:Expr)(b o:List Stmt)(en:En)(Y:St):aC Fl:=match nU t with
 |some x=>(jj cl n it en Y).bind (ahJ ex x b o en)
 |none=>onS ((aaV t).bind pW) λ xs=>onS (Jq xs) λ p=>(jj cl n it en Y).bind (agI ex p.1 p.2 b o en)
noncomputable def Qo(e:Option Expr):Option (Str×List Expr):=e.bind λ e=>(view e).call2
noncomputable def TJ(n:Nat)(e:Option Expr)(en:En)(Y:St):aC Fl:=match Qo e with
 |some (x,args)=>if x==("CycleError":Str)&&zJ args&&en.free&&en.own&&en.scope.names.lookup x==some .globalImplicit then(mJ (jj cl n) args en Y).bind λ _ Y=>.exc .cyc Y else .bad
 |none=>.bad
noncomputable def aa1(h:ExceptHandler):Option (Str×List Stmt):=match h with
 |.ExceptHandler t nm hb _=>t.bind λ t=>if nm.isSome||hb.isEmpty then none else(nU t).map λ x=>(x,hb)
noncomputable def ux(hs:List ExceptHandler):Option (Str×List Stmt):=(rm hs).bind aa1
set_option tactic.hygienic true in
noncomputable def XK(ex:Stmt->En->St->aC Fl)(b:List Stmt)(hs:List ExceptHandler)(o:List Stmt)(en:En)(Y:St):aC Fl:=match bY ex b en Y with
 |.ok .next Y=>bY ex o en Y
 |.ok f Y=>.ok f Y
 |.exc e Y=>(match ux hs with
  |some (x,hb)=>if x==jl e&&en.scope.names.lookup x==some .globalImplicit then(bY ex hb {en with free:=false} Y).bindN λ f Y=>.ok f Y else .bad
  |none=>.bad)
 |.bad=>.bad
noncomputable def G3(n:Nat)(ex:Stmt->En->St->aC Fl)(s:Stmt)(en:En)(Y:St):aC Fl:=match s with
  |.FunctionDef q q1 q2 q3 q4 q5 q6 q7 q8 q9|.AsyncFunctionDef q q1 q2 q3 q4 q5 q6 q7 q8 q9|.ClassDef q q1 q2 q3 q4 q5 q6 q7 q8 q9 q10=>.bad
  |.Return e u=>(Tw (jj cl n) e en Y).bind λ v Y=>.ok (.ret v) Y
  |.Delete ts u=>ajZ cl n ts en Y
  |.Assign ts e u=>if Qn e then .bad else(jj cl n e en Y).bind λ v Y=>(nW cl n ts v en Y).bind λ _ Y=>.ok .next Y
  |.TypeAlias q q1 q2 q3 q4 q5 q6=>.bad
  |.AugAssign t op e u=>ahI cl n t op e en Y
  |.AnnAssign q q1 q2 q3 q4=>.bad
  |.For t it b o u=>if en.free&&!wJ it then ahK cl n ex t it b o en Y else .bad
  |.AsyncFor q q1 q2 q3 q4=>.bad
  |.While t b o u=>if en.free then nT (Et cl n t en) (bY ex b en) (bY ex o en) wf Y else .bad
  |.If t b o u=>(Et cl n t en Y).bind λ c Y=>if c then bY ex b en Y else bY ex o en Y
  |.With q q1 q2|.AsyncWith q q1 q2|.Match q q1 q2=>.bad
  |.Raise e c u=>if c.isNone then TJ cl n e en Y else .bad
  |.Try b hs o f u=>if f.isEmpty&&en.free&&en.own&&!hs.isEmpty then XK ex b hs o en Y else .bad
  |.TryStar q q1 q2 q3 q4|.Assert q q1 q2|.Import q q1|.ImportFrom q q1 q2 q3|.Global q q1|.Nonlocal q q1=>.bad
  |.Expr e u=>if Tz e then(jj cl n e en Y).bind λ _ Y=>.ok .next Y else .bad
  |.Pass u=>.ok .next Y
  |.Break u=>.ok .brk Y
  |.Continue u=>.ok .cont Y
noncomputable def gR:Nat->Stmt->En->St->aC Fl
 |0=>λ _ _ _=>.bad
 |n+1=>G3 cl n (gR n)
theorem ahL(n:Nat):gR cl (n+1)=G3 cl n (gR cl n):=rfl
end
structure Fn where
 params:Arguments
 body:List Stmt
 scope:Scope
noncomputable def Nb(i:Nat):Stmt:=(PySem.Challenge.pw_il0148_01.main.body[i]?).getD (.Pass default)
noncomputable def agJ(s:Stmt):Option (Fn ⊕ List Stmt):=match s with
 |.FunctionDef u a b u2 u3 u4 sc u5 u6 u7=>some (.inl ⟨a,b,sc⟩)
 |.AsyncFunctionDef q q1 q2 q3 q4 q5 q6 q7 q8 q9=>none
 |.ClassDef u u2 u3 b u4 u5 u6 u7 u8 u9 u10=>some (.inr b)
 |.Return q q1|.Delete q q1|.Assign q q1 q2|.TypeAlias q q1 q2 q3 q4 q5 q6|.AugAssign q q1 q2 q3|.AnnAssign q q1 q2 q3 q4|.For q q1 q2 q3 q4|.AsyncFor q q1 q2 q3 q4|.While q q1 q2 q3|.If q q1 q2 q3|.With q q1 q2|.AsyncWith q q1 q2|.Match q q1 q2|.Raise q q1 q2|.Try q q1 q2 q3 q4|.TryStar q q1 q2 q3 q4|.Assert q q1 q2|.Import q q1|.ImportFrom q q1 q2 q3|.Global q q1|.Nonlocal q q1|.Expr q q1|.Pass q|.Break q|.Continue q=>none
noncomputable def aj0(s:Stmt):Option Fn:=(agJ s).bind Sum.getLeft?
noncomputable def ahM(i j:Nat):Option Fn:=(agJ (Nb i)).bind λ s=>s.getRight?.bind λ b=>(b[j]?).bind aj0
noncomputable def G4:List (Nat×Nat):=[(214,15),(221,17),(235,20),(242,21),(249,22),(256,23),(263,24),(270,25),(278,26),(283,27),(297,30),(304,31),(311,32),(318,33),(325,34),(330,35)]
noncomputable def Gj:List (Nat×Nat×Nat):=[(36,4,1),(73,6,0),(80,6,1),(87,6,2),(92,6,3),(99,6,4),(106,6,5),(120,6,7),(127,6,8)]
noncomputable def rA(a:Nat):Option Fn:=match G4.lookup a with
 |some i=>aj0 (Nb i)
 |none=>match Gj.lookup a with
  |some (i,j)=>ahM i j
  |none=>none
noncomputable def Eu(f:Fn)(args:List V)(Y:St):Option (List (Str×V)×St):=
 if f.params.posonlyargs.isEmpty&&f.params.kwonlyargs.isEmpty&&f.params.kwarg.isNone&&args.length<=1000 then match f.params.vararg with
  |none=>if args.length=f.params.args.length then some ((f.params.args.map (·.arg)).zip args,Y)
    else if args.length+1=f.params.args.length&&f.params.defaults.length==1 then some ((f.params.args.map (·.arg)).zip (args++[.none]),Y)else none
  |some r=>if f.params.args.length<=args.length then some ((f.params.args.map (·.arg)).zip args++[(r.arg,.ref Y.sto.length)],{Y with sto:=Y.sto++[.tup (args.drop f.params.args.length)]})else none
 else none
noncomputable def fC(sc:Scope):List Str:=(sc.names.filter λ p=>p.2== .cell).map (·.1)
noncomputable def lZ(ns:List Str)(k:Nat):List (Str×Nat):=match ns with
 |[]=>[]
 |x::r=>(x,k)::lZ r (k+1)
noncomputable def zK(sc:Scope):List (Str×Option V):=(sc.names.filter λ p=>p.2== .local).map λ p=>(p.1,none)
noncomputable def xH:List (Str×V)->List (Str×Option V)->List (Str×Option V)
 |[],l=>l
 |(x,v)::r,l=>xH r (dH l x v)
set_option tactic.hygienic true in
noncomputable def aG:Nat->Nat->List V->St->aC V
 |0,_,_,_=>.bad
 |d+1,a,args,Y=>
  if a=137 then(if args.isEmpty then
    (aG d 73 [.ref (Y.sto.length+1)] {Y with sto:=Y.sto++[.dict [] 0,.inst Y.sto.length]}).bind λ v τ=>if v=.none then .ok (.ref (Y.sto.length+1)) τ else .bad else .bad)
  else if a=40 then(match args with
   |[x]=>(aG d 36 [.ref (Y.sto.length+1),x] {Y with sto:=Y.sto++[.dict [] 0,.node Y.sto.length [none,none,none]]}).bind λ v τ=>if v=.none then .ok (.ref (Y.sto.length+1)) τ else .bad
   |_=>.bad)
  else match rA a with
   |none=>.bad
   |some f=>match Eu f args Y with
    |none=>.bad
    |some (bs,σ₁)=>
     let cs:=fC f.scope
     match bY (gR (aG d) 60) f.body {scope:=f.scope,cells:=lZ cs σ₁.sto.length} {loc:=xH bs (zK f.scope),sto:=σ₁.sto++cs.map λ _=>.cell none}with
     |.ok (.ret v) τ=>.ok v {loc:=Y.loc,sto:=τ.sto}
     |.ok .next τ=>.ok .none {loc:=Y.loc,sto:=τ.sto}
     |.ok _ _=>.bad
     |.exc e τ=>.exc e {loc:=Y.loc,sto:=τ.sto}
     |.bad=>.bad
theorem Nf{α β:Type}{Y:St}{i:Nat}{o:O}{f:O->Option α}{k:α->aC β}{a:α}(e:Y.sto[i]?=some o)(h:f o=some a):onS (Y.get i f) k=k a:=gD ((Cy e f).trans h)
open Classical in
theorem aa2{m d:Nat}{o:O}{Y τ:St}(h:Y.sto[m]?=some o)(h':τ.sto[m]?=some o)(g:o.view? =some d)(e:τ.sto[d]?=Y.sto[d]?):cW (.ref m) Y τ=true:=
 eE.mpr ⟨decide_eq_true (h'.trans h.symm),by rw[Cy h O.view?,g];exact decide_eq_true e⟩
open Classical in
theorem Ag{m:Nat}{o:O}{Y τ:St}(h:Y.sto[m]?=some o)(h':τ.sto[m]?=some o)(g:o.view? =none):cW (.ref m) Y τ=true:=
 eE.mpr ⟨decide_eq_true (h'.trans h.symm),by rw[Cy h O.view?,g]⟩
theorem mj{α:Type}{xs:List α}{x:α}(h:rm xs=some x):xs=[x]:=by
 induction xs with
 |nil=>exact ns h
 |cons a r=>induction r with
  |nil=>cases h;rfl
  |cons _ _=>exact ns h
theorem xJ{α:Type}{xs:List α}{x:α×α}(h:Jq xs=some x):xs=[x.1,x.2]:=by
 induction xs with
 |nil=>exact ns h
 |cons a r=>obtain⟨b,h1,h2⟩:=bx.mp (show(rm r).map (a,·)=some x from h);rw[mj h1,<-h2]
theorem G5{α:Type}{xs:List α}{x:α×α×α}(h:GF xs=some x):xs=[x.1,x.2.1,x.2.2]:=by
 induction xs with
 |nil=>exact ns h
 |cons a r=>obtain⟨b,h1,h2⟩:=bx.mp (show(Jq r).map (a,·)=some x from h);rw[xJ h1,<-h2]
theorem Gk{α:Type}{c:Prop}[Decidable c]{o:Option α}{a:α}(h:(if c then o else none)=some a):c/\o=some a:=by
 by_cases q:c
 ·rw[if_pos q]at h;exact⟨q,h⟩
 ·rw[if_neg q]at h;exact ns h
theorem oW{e:Expr}{x:Str}(h:nU e=some x):∃p,e=.Name x p:=by
 unfold nU at h;have k:=qK e;generalize view e=w at h k;induction w with
 |name y=>cases h;exact k
 |_=>exact ns h
theorem Ah{e:Expr}{r:List Expr}{l:List Str}(h:pW (e::r)=some l):∃x p xs,e=.Name x p/\l=x::xs/\pW r=some xs:=by
 obtain⟨y,h1,h2⟩:=bk.mp (show(nU e).bind (λ x=>(pW r).map (x::·))=some l from h);obtain⟨ys,h3,h4⟩:=bx.mp h2;obtain⟨p,h5⟩:=oW h1;exact⟨y,p,ys,h5,h4.symm,h3⟩
theorem oX{x:Str}{xs:List Str}{es:List Expr}(h:pW es=some (x::xs)):∃p r,es=.Name x p::r/\pW r=some xs:=by
 induction es with
 |nil=>cases h
 |cons e r=>
  obtain⟨y,p,ys,h5,h6,h7⟩:=Ah h;cases h6;exact⟨p,r,by rw[h5],h7⟩
theorem xK{es:List Expr}(h:pW es=some []):es=[]:=by
 induction es with
 |nil=>rfl
 |cons e r=>obtain⟨_,_,_,_,h,_⟩:=Ah h;exact nomatch h
theorem aa3{e o i:Expr}(h:aaU e=some (o,i)):∃p,e=.Subscript o i p/\Af i=false:=by
 unfold aaU at h;have k:=qK e;generalize view e=w at h k;induction w with
 |sub o' i'=>
  have h:(if Af i'=true then none else some (o',i'))=some (o,i):=h;induction hs:Af i' with
  |true=>rw[hs]at h;exact ns h
  |false=>rw[hs]at h;cases h;exact k.imp λ p q=>⟨q,hs⟩
 |_=>exact ns h
theorem aa4{e:Expr}{es:List Expr}(h:aaV e=some es):∃c p,e=.Tuple es c p:=by
 unfold aaV at h;have k:=qK e;generalize view e=w at h k;induction w with
 |tup es'=>cases h;exact k
 |_=>exact ns h
theorem Qp{gs:List Comprehension}{x:Str}{it:Expr}{ifs:List Expr}(h:agH gs=some (x,it,ifs)):∃p,gs=[⟨.Name x p,it,ifs,0⟩]:=by
 obtain⟨⟨t,a,b,c⟩,h1,h2⟩:=bk.mp h;obtain⟨h3,h4⟩:=Gk h2;obtain⟨y,h5,h6⟩:=bx.mp h4;obtain⟨p,h7⟩:=oW h5;cases h6;exact⟨p,(mj h1).trans (by rw[<-h7,<-h3])⟩
theorem XM{e:Expr}(h:Tz e=true):∃f a k p,e=.Call f a k p:=by
 unfold Tz at h;have k:=qK e;generalize view e=w at h k;induction w with
 |call f a ks=>exact⟨f,a,ks,k⟩
 |_=>exact qW h
theorem aa5{w:EV}{x:Str}{args:List Expr}{e:Expr}(h:w.call2=some (x,args))(k:w.Is e):∃q p,e=.Call (.Name x q) args [] p/\args.length=2:=by
 induction w with
 |call f a ks=>
  obtain⟨hc,h⟩:=Gk (show(if(ks.isEmpty&&a.length==2)=true then(nU f).map λ x=>(x,a)else none)=some (x,args)from h);obtain⟨y,h1,h2⟩:=bx.mp h;obtain⟨q,h3⟩:=oW h1;cases h2;obtain⟨p,rfl⟩:=k;obtain⟨h4,h5⟩:=eE.mp hc;exact⟨q,p,by rw[h3,iW.mp h4],eq_of_beq h5⟩
 |_=>exact ns h
theorem Qq{e:Option Expr}{x:Str}{args:List Expr}(h:Qo e=some (x,args)):∃q p,e=some (.Call (.Name x q) args [] p)/\args.length=2:=by
 induction e with
 |none=>exact ns h
 |some e=>obtain⟨q,p,h1,hl⟩:=aa5 h (qK e);exact⟨q,p,congrArg some h1,hl⟩
theorem Ng{hs:List ExceptHandler}{x:Str}{hb:List Stmt}(h:ux hs=some (x,hb)):∃q p,hs=[.ExceptHandler (some (.Name x q)) none hb p]/\hb≠[]:=by
 obtain⟨⟨t,nm,hb',p⟩,h1,h2⟩:=bk.mp h;obtain⟨t,rfl,h3⟩:=bk.mp (show t.bind (λ t=>if(nm.isSome||hb'.isEmpty)=true then none else(nU t).map λ x=>(x,hb'))=some (x,hb)from h2);clear h2;induction hc:nm.isSome||hb'.isEmpty with
 |true=>rw[hc]at h3;exact ns h3
 |false=>
  rw[hc]at h3;obtain⟨y,h5,h6⟩:=bx.mp (show(nU t).map (λ x=>(x,hb'))=some (x,hb)from h3);obtain⟨q,h7⟩:=oW h5;cases h6;obtain⟨h8,h9⟩:=Bool.or_eq_false_iff.mp hc;exact⟨q,p,(mj h1).trans (by rw[<-h7,Option.isSome_eq_false_iff.mp h8|>lQ.mp]),λ q=>by rw[q]at h9;exact qW h9.symm⟩
theorem G6{Y:St}{k:Nat}{ys:List V}(e:Y.sto[k]?=some (.list ys)):fD (.ref k) Y=if small ys.length=true then some ys else none:=dY e
theorem Nh{Y:St}{k:Nat}{ys:List V}(e:Y.sto[k]?=some (.tup ys)):fD (.ref k) Y=if small ys.length=true then some ys else none:=dY e
theorem G7{Y:St}{k ep:Nat}{kvs:List (Str×V)}(e:Y.sto[k]?=some (.dict kvs ep)):fD (.ref k) Y=if small kvs.length=true then some (kvs.map λ p=>.str p.1)else none:=dY e
theorem Ni{Y:St}{k:Nat}{n:Int}(e:Y.sto[k]?=some (.rng n)):fD (.ref k) Y=some ((gj n.toNat).map λ k:Nat=>V.int (k:Int)):=dY e
theorem G8{Y:St}{k d ep:Nat}{kvs:List (Str×V)}(e:Y.sto[k]?=some (.view d))(e':Y.sto[d]?=some (.dict kvs ep)):fD (.ref k) Y=if small kvs.length=true then some (kvs.map (·.2))else none:=(dY e).trans (dY (ur e'))
end
end Mine
namespace Mine
open PySem
noncomputable def tu(a b:Str):Bool:=!p8 b a
theorem oY{a b:Str}:tu a b=true↔a.cps.toList<=b.cps.toList:=by
 unfold tu p8;rw[kE,decide_eq_false_iff_not,List.not_lt]
theorem Ew(a b c:Str)(h1:tu a b=true)(h2:tu b c=true):tu a c=true:=
 oY.mpr (List.le_trans (oY.mp h1) (oY.mp h2))
theorem Qs(a b:Str):(tu a b||tu b a)=true:=by
 rw[Bool.or_eq_true,oY,oY];exact List.le_total _ _
theorem G9{a b:Str}(h1:tu a b=true)(h2:tu b a=true):a=b:=by
 have:=List.le_antisymm (oY.mp h1) (oY.mp h2);exact congrArg (λ z=>Str.mk (Array.mk z)) this
theorem Ai(xs:List Str):(gG xs).Pairwise λ a b=>tu a b=true:=List.pairwise_mergeSort Ew Qs xs
theorem mK(xs:List Str):(gG xs).Perm xs:=List.mergeSort_perm ..
theorem Aj{xs ys:List Str}(hp:ys.Perm xs)(hs:ys.Pairwise λ a b=>tu a b=true):ys=gG xs:=
 List.Perm.eq_of_pairwise (λ _ _ _ _ h1 h2=>G9 h1 h2) hs (Ai xs) (hp.trans (mK xs).symm)
end Mine
namespace Mine
open PySem PySem.W PyProof.Rows
inductive cX{α β:Type}(R:α->β->Prop):List α->List β->Prop
 |nil:cX R [] []
 |cons {a:α}{b:β}{as:List α}{bs:List β}:R a b->cX R as bs->cX R (a::as) (b::bs)
namespace cX
variable {α β:Type}{R S:α->β->Prop}
theorem length{as:List α}{bs:List β}(h:cX R as bs):as.length=bs.length:=by induction h<;>simp_all
theorem mono(hRS:∀a b,R a b->S a b){as:List α}{bs:List β}(h:cX R as bs):cX S as bs:=by
 induction h with
 |nil=>exact .nil
 |cons h _ ih=>exact .cons (hRS _ _ h) ih
theorem append{as as':List α}{bs bs':List β}(h:cX R as bs)(h':cX R as' bs'):cX R (as++as') (bs++bs'):=by
 induction h with
 |nil=>exact h'
 |cons h _ ih=>exact .cons h ih
theorem get{as:List α}{bs:List β}(h:cX R as bs):∀{i:Nat}{a:α},as[i]?=some a->∃b,bs[i]?=some b/\R a b:=by
 induction h with
 |nil=>intro i a e;contradiction
 |cons h _ ih=>
  intro i a e;induction i with
  |zero=>simp at e;subst e;exact⟨_,rfl,h⟩
  |succ i=>simp at e ⊢;exact ih e
theorem getR{as:List α}{bs:List β}(h:cX R as bs):∀{i:Nat}{b:β},bs[i]?=some b->∃a,as[i]?=some a/\R a b:=by
 induction h with
 |nil=>intro i a e;contradiction
 |cons h _ ih=>
  intro i a e;induction i with
  |zero=>simp at e;subst e;exact⟨_,rfl,h⟩
  |succ i=>simp at e ⊢;exact ih e
theorem take{as:List α}{bs:List β}(h:cX R as bs)(n:Nat):cX R (as.take n) (bs.take n):=by
 induction h generalizing n with
 |nil=>simp;exact .nil
 |cons h _ ih=>induction n with
  |zero=>exact .nil
  |succ n=>exact .cons h (ih n)
theorem drop{as:List α}{bs:List β}(h:cX R as bs)(n:Nat):cX R (as.drop n) (bs.drop n):=by
 induction h generalizing n with
 |nil=>simp;exact .nil
 |cons h t ih=>induction n with
  |zero=>exact .cons h t
  |succ n=>exact ih n
theorem dropLast{as:List α}{bs:List β}(h:cX R as bs):cX R as.dropLast bs.dropLast:=by
 rw[j7,j7,h.length];exact h.take _
theorem replicate{a:α}{b:β}(h:R a b)(n:Nat):cX R (bQ n a) (bQ n b):=by
 induction n with
 |zero=>exact .nil
 |succ n ih=>exact .cons h ih
theorem set{as:List α}{bs:List β}(h:cX R as bs){i:Nat}{a:α}{b:β}(hab:R a b):cX R (as.set i a) (bs.set i b):=by
 induction h generalizing i with
 |nil=>exact .nil
 |cons h t ih=>induction i with
  |zero=>exact .cons hab t
  |succ i=>exact .cons h (ih)
end cX
theorem cX.nil_inv{α β:Type}{R:α->β->Prop}{bs:List β}(h:cX R [] bs):bs=[]:=by cases h;rfl
theorem cX.cons_inv{α β:Type}{R:α->β->Prop}{a:α}{as:List α}{bs:List β}(h:cX R (a::as) bs):∃b bs',bs=b::bs'/\R a b/\cX R as bs':=by
 cases h with|cons h1 h2=>exact⟨_,_,rfl,h1,h2⟩
theorem cX.two{α β:Type}{R:α->β->Prop}{a b:α}{bs:List β}(h:cX R [a,b] bs):∃c d,bs=[c,d]/\R a c/\R b d:=by
 obtain⟨c,_,e,h1,h⟩:=h.cons_inv;obtain⟨d,_,e2,h2,h⟩:=h.cons_inv;exact⟨c,d,by rw[e,e2,h.nil_inv],h1,h2⟩
theorem cX.three{α β:Type}{R:α->β->Prop}{a b c:α}{bs:List β}(h:cX R [a,b,c] bs):∃d e f,bs=[d,e,f]/\R a d/\R b e/\R c f:=by
 obtain⟨d,_,e,h1,h⟩:=h.cons_inv;obtain⟨x,y,e2,h2,h3⟩:=h.two;exact⟨d,x,y,by rw[e,e2],h1,h2,h3⟩
theorem CQ{α:Type}{cs:Array α}{l:List α}(h:cs.toList=l):cs=l.toArray:=by subst h;rfl
noncomputable def VR(ρ:List aR):V->ao->Prop
 |.none,c=>c=.none
 |.bool b,c=>c=.bool b
 |.int i,c=>∃t,c=.int i t
 |.str s,c=>∃t,c=.str s t
 |.ref n,c=>∃a,ρ[n]?=some a/\c=.ref a
 |.fn a,c=>c=.ref a
 |.bi b,c=>c=b.val
theorem bK{α:Type}{l l':List α}{i:Nat}{a:α}(h:l[i]?=some a):(l++l')[i]?=some a:=by
 obtain⟨hl,_⟩:=aN.mp h;rw[cH hl];exact h
theorem VR.mono{ρ ρ':List aR}{v:V}{c:ao}(h:VR ρ v c):VR (ρ++ρ') v c:=by
 induction v<;>first|exact h|(obtain⟨a,h1,h2⟩:=h;exact⟨a,bK h1,h2⟩)
noncomputable def Kc(ρ:List aR)(p:Str×V)(q:Str×ao):Prop:=p.1=q.1/\VR ρ p.2 q.2
theorem Kc.mono{ρ ρ':List aR}{p:Str×V}{q:Str×ao}(h:Kc ρ p q):Kc (ρ++ρ') p q:=⟨h.1,h.2.mono⟩
noncomputable def Hf(ρ:List aR):Option V->Option ao->Prop
 |none,c=>c=none
 |some v,c=>∃x,c=some x/\VR ρ v x
theorem Hf.mono{ρ ρ':List aR}{v:Option V}{c:Option ao}(h:Hf ρ v c):Hf (ρ++ρ') v c:=by
 induction v with
 |none=>exact h
 |some v=>obtain⟨x,h1,h2⟩:=h;exact⟨x,h1,h2.mono⟩
inductive aj1(prog:cI)(w:eZ)(ρ:List aR)(kvs:List (Str×V))(ep:Nat)(co:Obj):Prop
 |mk (es:Array DictEntry) (ckvs:List (Str×ao)) (e:co={cls:=.type "dict",dict:=none,data:=.dict es ep,slots:=#[]}) (hk:KeysOf (strKind prog w) es) (hp:Pairs (strKind prog w) es.toList ckvs) (hn:(ckvs.map (·.1)).Nodup) (hv:cX (Kc ρ) kvs ckvs)
theorem Qt{prog:cI}{w:eZ}{A:bJ}{E:ao->aD->Prop}{s:aD}{b:Bool}{Q:Int->aD->Prop}(h:Q (hashInt (if b then 1 else 0)) {s with toks:=s.toks+1}):
  bI (model prog w) A (pyHash (.bool b)) Q E s:=by
 have hT:s.TypeIs (.bool b) "bool":=rfl;have hr:=rawHash_range (if b then 1 else 0);refine ak ?_;rw[cRoomFor];refine aB ?_;show bI _ _ (callSpecialIfBoundUnlessNone? (.bool b) "__hash__" _ >>= _) Q E s;refine ak (wpAny_callSpecialIfBoundUnlessNone?_slot hT F.slot_bool_hash
  (d7 F.slot_bool_hash hT F.entry_int_hash
   (show bI _ _ (do ret (<-mkInt (rawHash (if b then 1 else 0)))) _ _ s from wpAny_ret_mkInt ?_) (args_int_hash _)))
 show bI _ _ (if(decide (-(2:Int) ^ 63<=rawHash (if b then 1 else 0))&&decide (rawHash (if b then 1 else 0) < 2 ^ 63))=true then _ else _) Q E _;rw[if_pos (by rw[decide_eq_true hr.1,decide_eq_true hr.2];rfl)];exact aB h
theorem Qu{prog:cI}{w:eZ}{A:bJ}{E:ao->aD->Prop}{s:aD}{a b:Bool}{Q:Bool->aD->Prop}(h:Q (decide (a=b)) s):
  bI (model prog w) A (eqBool (.bool a) (.bool b)) Q E s:=
 SeqAt.EqAt.bool_bool a b prog w E Q (by induction a<;>induction b<;>exact h)
noncomputable def aj2(w:eZ):Bool:=!w.params.followText "set-order"
noncomputable def aa6(led:Bool):List Bool->Option Data
 |[]=>some (.set #[] 0 (.fresh 0 0 led))
 |[b]=>some (.set #[(hashInt (if b then 1 else 0),.bool b)] 1 (layNew (.fresh 0 0 led) #[] (hashInt (if b then 1 else 0)) (.bool b)).2.1)
 |_=>none
inductive aj3(ρ:List aR)(xs:List V)(co:Obj):Prop
 |mk (cs:Array ao) (n:Nat) (e:co={cls:=.type "list",dict:=none,data:=.seq cs n,slots:=#[]}) (h:cX (VR ρ) xs cs.toList)
inductive alQ(ρ:List aR)(xs:List V)(co:Obj):Prop
 |mk (cs:Array ao) (n:Fin 1) (e:co={cls:=.type "tuple",dict:=none,data:=.seq cs n.val,slots:=#[]}) (h:cX (VR ρ) xs cs.toList)
inductive aj4(ρ:List aR)(d:Nat)(fs:List (Option V))(co:Obj):Prop
 |mk (hl:fs.length=3) (dx:aR) (sl:Array (Option ao)) (hd:ρ[d]?=some dx) (e:co={cls:=.ref 40,dict:=some dx,data:=.plain,slots:=sl}) (hs:∀(i:Nat) v,fs[i]?=some v->Hf ρ v (sl[i]?).join)
inductive aj5(ρ:List aR)(k i:Nat)(co:Obj):Prop
 |mk (ita:aR) (old:ao) (hk:ρ[k]?=some ita) (e:co={cls:=.type "enumerate",dict:=none,data:=.fields #[.none,.bool false,.ref ita,rawInt i,.none,old],slots:=#[]})
inductive ahN(ρ:List aR)(l i:Nat)(co:Obj):Prop
 |mk (la:aR) (hl:ρ[l]?=some la) (h1:co.cls=.type "list_iterator") (h2:co.dict=none) (h3:co.data=.fields #[.ref la,.int i 0])
inductive alR(ρ:List aR)(l i:Nat)(co:Obj):Prop
 |mk (la:aR) (hl:ρ[l]?=some la) (h1:co.cls=.type "list_iterator") (h3:co.data=.fields #[.ref la,.int i 0])
noncomputable def OR(prog:cI)(w:eZ)(ρ:List aR):O->Obj->Prop
 |.list xs,co=>aj3 ρ xs co
 |.tup xs,co=>alQ ρ xs co
 |.dict kvs ep,co=>aj1 prog w ρ kvs ep co
 |.set xs,co=>co.SetObjOf (strKind prog w) (λ k=>xs.contains k) xs.length
 |.bset bs,co=>∃d,aa6 (aj2 w) bs=some d/\co={cls:=.type "set",dict:=none,data:=d,slots:=#[]}
 |.inst d,co=>∃dx,ρ[d]?=some dx/\co=instObj 137 dx
 |.node d fs,co=>aj4 ρ d fs co
 |.cell v,co=>∃cv:Option ao,co.data=.cell cv/\Hf ρ v cv
 |.liter l i,co=>ahN ρ l i co
 |.eit l i,co=>alR ρ l i co
 |.bnext i,co=>∃ita,ρ[i]?=some ita/\co={cls:=.type "method-wrapper",dict:=none,data:=.fields #[.builtin "list_iterator.__next__",.ref ita],slots:=#[]}
 |.rng n,co=>∃t u v,co={cls:=.type "range",dict:=none,data:=.fields #[.int 0 t,.int n u,.int 1 v],slots:=#[]}/\0<=n/\n<=1000
 |.enum k i,co=>aj5 ρ k i co
 |.mapo f k,co=>∃ta,ρ[k]?=some ta/\co={cls:=.type "map",dict:=none,data:=.fields #[.ref ta,.ref f],slots:=#[]}
 |.view d,co=>∃dx,ρ[d]?=some dx/\co.cls=.type "dict_values"/\co.data=.fields #[.ref dx]/\co.dict=none
 |.any,_=>True
theorem OR.mono{prog:cI}{w:eZ}{ρ ρ':List aR}{o:O}{co:Obj}(h:OR prog w ρ o co):OR prog w (ρ++ρ') o co:=by
 induction o with
 |list xs=>obtain⟨cs,n,h1,h2⟩:=h;exact⟨cs,n,h1,h2.mono λ _ _=>VR.mono⟩
 |tup xs=>obtain⟨cs,n,h1,h2⟩:=h;exact⟨cs,n,h1,h2.mono λ _ _=>VR.mono⟩
 |dict kvs ep=>obtain⟨es,ckvs,h1,h2,h3,h4,h5⟩:=h;exact⟨es,ckvs,h1,h2,h3,h4,h5.mono λ _ _=>Kc.mono⟩
 |inst d=>obtain⟨dx,h1,h2⟩:=h;exact⟨dx,bK h1,h2⟩
 |node d fs=>obtain⟨h0,dx,sl,h2,h1,h3⟩:=h;exact⟨h0,dx,sl,bK h2,h1,λ i v e=>(h3 i v e).mono⟩
 |cell v=>obtain⟨cv,h1,h2⟩:=h;exact⟨cv,h1,h2.mono⟩
 |liter l i=>obtain⟨la,h1,h2,h3,h4⟩:=h;exact⟨la,bK h1,h2,h3,h4⟩
 |view d=>obtain⟨la,h1,h2⟩:=h;exact⟨la,bK h1,h2⟩
 |eit l i=>obtain⟨la,h1,h2,h3⟩:=h;exact⟨la,bK h1,h2,h3⟩
 |bnext i=>obtain⟨la,h1,h2⟩:=h;exact⟨la,bK h1,h2⟩
 |mapo f k=>obtain⟨la,h1,h2⟩:=h;exact⟨la,bK h1,h2⟩
 |enum k i=>obtain⟨la,old,h1,h2⟩:=h;exact⟨la,old,bK h1,h2⟩
 |any=>trivial
 |_=>exact h
noncomputable def xr(ρ:List aR)(loc:List (Str×Option V))(m:Str->Option ao):Prop:=∀x v,loc.lookup x=some (some v)->∃c,m x=some c/\VR ρ v c
theorem xr.mono{ρ ρ':List aR}{loc:List (Str×Option V)}{m:Str->Option ao}(h:xr ρ loc m):xr (ρ++ρ') loc m:=λ x v e=>let ⟨c,a,b⟩:=h x v e;⟨c,a,b.mono⟩
theorem Js(loc:List (Str×Option V))(x y:Str)(v:V):(dH loc x v).lookup y=if y=x then some (some v)else loc.lookup y:=by
 induction loc with
 |nil=>
  by_cases h:y=x
  ·subst h;simp[dH]
  ·have:(y==x)=false:=by simpa using h
   simp[dH,dG,h,this]
 |cons p r ih=>
  obtain⟨z,o⟩:=p;by_cases hz:z=x
  ·clear ih;subst hz;simp only[dH,beq_self_eq_true,if_true];by_cases h:y=z
   ·subst h;simp
   ·have:(y==z)=false:=by simpa using h
    simp[dG,this,h]
  ·have hz':(z==x)=false:=by simpa using hz
   simp only[dH,hz',aF,if_false,dG];clear hz';by_cases h:y=z
   ·subst h;simp[hz]
   ·have:(y==z)=false:=by simpa using h
    rw[this];exact ih
theorem xr.set{ρ:List aR}{loc:List (Str×Option V)}{m:Str->Option ao}(h:xr ρ loc m){x:Str}{v:V}{c:ao}(hv:VR ρ v c):
  xr ρ (dH loc x v) λ y=>if y=x then some c else m y:=by
 intro y u e;rw[Js]at e;by_cases hy:y=x
 ·rw[if_pos hy]at e;cases e;exact⟨c,if_pos hy,hv⟩
 ·rw[if_neg hy]at e;obtain⟨d,h1,h2⟩:=h y u e;exact⟨d,(if_neg hy).trans h1,h2⟩
noncomputable abbrev Gl:=List (Env×(Str->Option ao))
structure aa7(h₀:cG)(L:aR)(ρ:List aR)(h:cG)(p:Env×(Str->Option ao))(a:aR):Prop where
 frame:p.1.locals=a
 ns:h.Ns a p.2
 new:h₀.get? a=none
 notL:a≠L
 notIn:a∉ρ
 fn:p.1.scope.kind=.function
inductive agK(h:cG)(L:aR)(ρ:List aR)(loc:List (Str×Option V)):Prop
 |mk (m:Str->Option ao) (hn:h.Ns L m) (hl:xr ρ loc m)
structure Rep(prog:cI)(w:eZ)(h₀:cG)(FS:Gl)(L:aR)(ρ:List aR)(h:cG)(Y:St):Prop where
 keep:∀b o,h₀.get? b=some o->h.get? b=some o
 loc:agK h L ρ Y.loc
 newL:h₀.get? L=none
 len:ρ.length=Y.sto.length
 nodup:ρ.Nodup
 notL:L∉ρ
 fresh:∀(i:Nat) a,k0<=i->ρ[i]?=some a->h₀.get? a=none
 objs:∀(i:Nat) o a,Y.sto[i]?=some o->ρ[i]?=some a->∃co,h.get? a=some co/\OR prog w ρ o co
 callers:∀p∈FS,∃a,aa7 h₀ L ρ h p a
 sysIn:(h₀.get? gk).isSome=true
 sys:∀a∈ρ,(a==gk)=false
 fsnd:(FS.map λ p=>p.1.locals).Nodup
section
variable {prog:cI}{w:eZ}{h₀ h h':cG}{FS:Gl}{L:aR}{ρ:List aR}{Y:St}
inductive ahO(prog:cI)(w:eZ)(h:cG)(ρ:List aR)(i:Nat)(o:O):Prop
 |mk (a:aR) (co:Obj) (h1:ρ[i]?=some a) (h2:h.get? a=some co) (h3:OR prog w ρ o co)
theorem Rep.addr(R:Rep prog w h₀ FS L ρ h Y){i:Nat}{o:O}(e:Y.sto[i]?=some o):ahO prog w h ρ i o:=by
 obtain⟨hl,_⟩:=aN.mp e;have hl':i < ρ.length:=by rw[R.len];exact hl
 obtain⟨co,h1,h2⟩:=R.objs i o _ e (bf hl');exact⟨_,co,bf hl',h1,h2⟩
theorem Rep.lt(R:Rep prog w h₀ FS L ρ h Y){a:aR}(ha:a∈ρ):a < h.objs.size:=by
 obtain⟨i,hi,rfl⟩:=iJ ha;have hi':i < Y.sto.length:=by rw[<-R.len];exact hi
 obtain⟨co,h1,_⟩:=R.objs i _ _ (bf hi') (bf hi);exact gM h1
theorem Rep.ltL(R:Rep prog w h₀ FS L ρ h Y):L < h.objs.size:=let ⟨_,a,_⟩:=R.loc;a.lt
theorem Rep.junk(R:Rep prog w h₀ FS L ρ h Y)(hk:∀b o,h.get? b=some o->h'.get? b=some o):Rep prog w h₀ FS L ρ h' Y where
 keep:=λ b o e=>hk _ _ (R.keep b o e)
 loc:=let ⟨m,a,b⟩:=R.loc;⟨m,a.keeps hk,b⟩
 newL:=R.newL
 len:=R.len
 nodup:=R.nodup
 notL:=R.notL
 fresh:=R.fresh
 objs:=λ i o a e e'=>let ⟨co,x,y⟩:=R.objs i o a e e';⟨co,hk _ _ x,y⟩
 callers:=λ p hp=>let ⟨a,x⟩:=R.callers p hp;⟨a,x.frame,x.ns.keeps hk,x.new,x.notL,x.notIn,x.fn⟩
 sysIn:=R.sysIn
 sys:=R.sys
 fsnd:=R.fsnd
theorem Rep.size(R:Rep prog w h₀ FS L ρ h Y){a:aR}(e:h.get? a=none):h₀.get? a=none:=by
 induction q:h₀.get? a with
 |none=>rfl
 |some o=>have:=R.keep a o q;rw[e]at this;cases this
theorem Rep.new(R:Rep prog w h₀ FS L ρ h Y)(hk:∀b o,h.get? b=some o->h'.get? b=some o){a:aR}{o:O}{co:Obj}(ha:h.get? a=none)(hc:h'.get? a=some co)(ho:OR prog w (ρ++[a]) o co):
  Rep prog w h₀ FS L (ρ++[a]) h' {Y with sto:=Y.sto++[o]}:=by
 have J:=R.junk hk;have an:a∉ρ:=λ q=>by
  obtain⟨i,hi,e⟩:=iJ q;have hi':i < Y.sto.length:=by rw[<-R.len];exact hi
  obtain⟨co',h1,_⟩:=R.objs i _ _ (bf hi') (bf hi);rw[e,ha]at h1;contradiction
 have aL:a≠L:=λ q=>by
  obtain⟨m,⟨_,_,_,x,_⟩,_⟩:=R.loc;rw[<-q,ha]at x;contradiction
 refine⟨J.keep,?_,R.newL,by simp[R.len],?_,?_,?_,?_,?_,R.sysIn,?_,R.fsnd⟩
 ·obtain⟨m,x,y⟩:=J.loc;exact⟨m,x,y.mono⟩
 ·rw[cN];refine⟨R.nodup,by simp,λ x hx y hy=>?_⟩;simp only[aJ]at hy;clear ha hc ho aL;subst hy;exact λ q=>an (q▸hx)
 ·simp only[aM,aJ,not_or];exact⟨R.notL,λ q=>aL q.symm⟩
 ·intro i b hi e;by_cases hl:i < ρ.length
  ·rw[cH hl]at e;exact R.fresh i b hi e
  ·rw[cD (jG hl)]at e;have:b=a:=by
    induction q:i - ρ.length with
    |zero=>rw[q]at e;simpa using e.symm
    |succ n=>rw[q]at e;contradiction
   rw[this];exact R.size ha
 ·intro i o' b e e';by_cases hl:i < ρ.length
  ·rw[cH hl]at e';rw[cH (by rw[<-R.len];exact hl)]at e;obtain⟨co',x,y⟩:=J.objs i o' b e e';exact⟨co',x,y.mono⟩
  ·rw[cD (jG hl)]at e';rw[cD (by rw[<-R.len];exact jG hl),<-R.len]at e;induction q:i - ρ.length with
   |zero=>
    rw[q]at e e';simp at e e';subst e e';exact⟨co,hc,ho⟩
   |succ n=>rw[q]at e;contradiction
 ·intro p hp;obtain⟨b,x⟩:=J.callers p hp;refine⟨b,x.frame,x.ns,x.new,x.notL,?_,x.fn⟩;simp only[aM,aJ,not_or];refine⟨x.notIn,λ q=>?_⟩;obtain⟨b',x'⟩:=R.callers p hp;obtain rfl:b=b':=x.frame.symm.trans x'.frame;obtain⟨_,_,_,y,_⟩:=x'.ns;rw[q,ha]at y;contradiction
 ·intro b hb;rcases aM.mp hb with hb|hb
  ·exact R.sys b hb
  ·rw[aJ.mp hb,beq_eq_false_iff_ne];intro q;have:=R.size ha;rw[q]at this;have z:=R.sysIn;rw[this]at z;contradiction
theorem Rep.push(R:Rep prog w h₀ FS L ρ h Y){o:O}{co:Obj}(hf:co.isFreed=false)(ho:OR prog w (ρ++[h.objs.size]) o co):
  Rep prog w h₀ FS L (ρ++[h.objs.size]) (h.push co) {Y with sto:=Y.sto++[o]}:=
 R.new (λ _ _ e=>bB _ e) (dg (bV _)) (bW _ hf) ho
theorem Rep.upd(R:Rep prog w h₀ FS L ρ h Y){i:Nat}{a:aR}{o:O}{co:Obj}(hi:k0<=i)(ha:ρ[i]?=some a)(hs:dO a h h')(hc:h'.get? a=some co)(ho:OR prog w ρ o co):
  Rep prog w h₀ FS L ρ h' (Y.upd i o):=by
 have hm:a∈ρ:=bG ha;refine⟨λ b o e=>(hs.2 b ((λ b o e q=>by rw[q,(R.fresh i a hi ha)]at e;contradiction) b o e)).trans (R.keep b o e),?_,R.newL,by simp[St.upd,R.len],R.nodup,R.notL,R.fresh,?_,?_,R.sysIn,R.sys,R.fsnd⟩
 ·obtain⟨m,x,y⟩:=R.loc;exact⟨m,x.sameBut hs (λ q=>R.notL (q▸hm)),y⟩
 ·intro j o' b e e';clear hi;by_cases hj:j=i
  ·subst hj;obtain rfl:a=b:=Option.some.inj (ha.symm.trans e');obtain⟨hl,_⟩:=aN.mp e';rw[St.upd,bR (by rw[<-R.len];exact hl)]at e;cases e;exact⟨co,hc,ho⟩
  ·rw[St.upd,aY (λ q=>hj q.symm)]at e;obtain⟨co',x,y⟩:=R.objs j o' b e e';refine⟨co',(hs.2 b λ q=>hj ?_).trans x,y⟩;clear hs hc hm;subst q;exact(oH (aN.mp e').1 R.nodup).mp (e'.trans ha.symm)
 ·intro p hp;obtain⟨b,x⟩:=R.callers p hp;exact⟨b,x.frame,x.ns.sameBut hs (λ q=>x.notIn (q▸hm)),x.new,x.notL,x.notIn,x.fn⟩
theorem Rep.setLoc(R:Rep prog w h₀ FS L ρ h Y){m':Str->Option ao}{l:List (Str×Option V)}(hn:h'.Ns L m')(hs:dO L h h')(hl:xr ρ l m'):
  Rep prog w h₀ FS L ρ h' {Y with loc:=l}:=by
 refine⟨λ b o e=>(hs.2 b ((λ b o e q=>by rw[q,R.newL]at e;contradiction) b o e)).trans (R.keep b o e),⟨m',hn,hl⟩,R.newL,R.len,R.nodup,R.notL,R.fresh,?_,?_,R.sysIn,R.sys,R.fsnd⟩
 ·intro j o b e e';obtain⟨co,x,y⟩:=R.objs j o b e e';exact⟨co,(hs.2 b λ q=>R.notL (q▸bG e')).trans x,y⟩
 ·intro p hp;obtain⟨b,x⟩:=R.callers p hp;exact⟨b,x.frame,x.ns.sameBut hs x.notL,x.new,x.notL,x.notIn,x.fn⟩
end
end Mine
namespace Mine
open PySem PySem.W PySem.Calls PyProof.Rows
structure Cx where
 prog:cI
 w:eZ
 h₀:cG
 FS:Gl
 L:aR
 room:Nat
noncomputable def Cx.Rep(C:Cx)(ρ:List aR)(h:cG)(Y:St):Prop:=Mine.Rep C.prog C.w C.h₀ C.FS C.L ρ h Y
noncomputable def vC:Gi->ao
 |.stop=>.type "StopIteration"
 |.cyc=>.ref 55
inductive Cx.XR(C:Cx)(x:Gi)(ρ:List aR)(Y:St)(e:ao)(h:cG):Prop
 |mk (base:cG) (a:aR) (m:Str->Option ao) (he:e=.ref a) (hn:base.get? a=none) (hr:∀h',base.StaysIn h'->h'.Ns C.L m->(∀p∈C.FS,h'.Ns p.1.locals p.2)->C.Rep ρ h' Y)
  (bL:base.get? C.L=none) (bF:∀p∈C.FS,base.get? p.1.locals=none) (hb:base.StaysIn h) (nL:h.Ns C.L m) (nF:∀p∈C.FS,h.Ns p.1.locals p.2) (hl:xr ρ Y.loc m)
  (hc:(∃hp args,base.StaysIn hp/\hp.Ns C.L m/\(∀p∈C.FS,hp.Ns p.1.locals p.2)/\Heap.MadeExcOf hp h a (vC x) args)\/∃a0,h.TracedW base a (vC x) a0)
inductive Cx.Ret(C:Cx){α β:Type}(ρ:List aR)(s:aD)(r:aC α)(rel:List aR->α->β->Prop)(b:β)(s':aD):Prop
 |mk (a:α) (Y':St) (h':cG) (tk:Nat) (ρ':List aR) (er:r=.ok a Y') (es:s'={s with heap:=h',toks:=tk}) (R:C.Rep (ρ++ρ') h' Y') (x:rel (ρ++ρ') a b)
inductive Cx.Exn(C:Cx){α:Type}(ρ:List aR)(s:aD)(r:aC α)(e:ao)(s':aD):Prop
 |mk (x:Gi) (Y':St) (h':cG) (tk:Nat) (ρ':List aR) (er:r=.exc x Y') (es:s'={s with heap:=h',toks:=tk}) (X:C.XR x (ρ++ρ') Y' e h')
noncomputable def Cx.Snd(C:Cx)(A:bJ){α β:Type}(t:Sem β)(ρ:List aR)(r:aC α)(rel:List aR->α->β->Prop)(s:aD):Prop:=
 r≠.bad->bI (model C.prog C.w) A t (C.Ret ρ s r rel) (C.Exn ρ s r) s
section
variable {C:Cx}{A:bJ}{α α' β β':Type}{t:Sem β}{ρ:List aR}{r:aC α}{rel:List aR->α->β->Prop}{rel':List aR->α'->β'->Prop}{s:aD}{Y:St}
theorem Cx.ret0{a:α}{b:β}{h':cG}{tk:Nat}(R:C.Rep ρ h' Y)(x:rel ρ a b):C.Ret ρ s (.ok a Y) rel b {s with heap:=h',toks:=tk}:=
 ⟨a,Y,h',tk,[],rfl,rfl,by rw[aW];exact R,by rw[aW];exact x⟩
theorem Cx.ret1{a:α}{b:β}{h':cG}{tk:Nat}{ρ':List aR}(R:C.Rep (ρ++ρ') h' Y)(x:rel (ρ++ρ') a b):C.Ret ρ s (.ok a Y) rel b {s with heap:=h',toks:=tk}:=
 ⟨a,Y,h',tk,ρ',rfl,rfl,R,x⟩
theorem Cx.Snd.bad(h:r=.bad):C.Snd A t ρ r rel s:=λ q=>absurd h q
theorem Cx.Snd.of_bad:C.Snd A t ρ (.bad:aC α) rel s:=λ q=>absurd rfl q
theorem Cx.Snd.onS{γ:Type}{o:Option γ}{k:γ->aC α}(h:∀a,o=some a->C.Snd A t ρ (k a) rel s):C.Snd A t ρ (onS o k) rel s:=by
 induction o with
 |none=>exact .of_bad
 |some a=>exact h a rfl
theorem Cx.Snd.grd{b:Bool}(h:b=true->C.Snd A t ρ r rel s):C.Snd A t ρ (grd b r) rel s:=by
 induction b with
 |false=>exact .of_bad
 |true=>exact h rfl
theorem Cx.Snd.cond{c:Prop}[Decidable c](h:c->C.Snd A t ρ r rel s):C.Snd A t ρ (if c then r else .bad) rel s:=by
 by_cases q:c
 ·rw[if_pos q];exact h q
 ·rw[if_neg q];exact .of_bad
theorem Cx.Snd.onB{γ δ:Type}{o:Option γ}{k:γ->Option δ}{f:δ->aC α}(h:∀a,o=some a->C.Snd A t ρ (Mine.onS (k a) f) rel s):C.Snd A t ρ (Mine.onS (o.bind k) f) rel s:=by
 induction o with
 |none=>exact .of_bad
 |some a=>exact h a rfl
theorem Cx.Snd.onM{γ δ:Type}{o:Option γ}{k:γ->δ}{f:δ->aC α}(h:∀a,o=some a->C.Snd A t ρ (f (k a)) rel s):C.Snd A t ρ (Mine.onS (o.map k) f) rel s:=by
 induction o with
 |none=>exact .of_bad
 |some a=>exact h a rfl
theorem Cx.Snd.onM'{γ δ ε:Type}{o:Option γ}{k:γ->Option δ}{g:δ->ε}{f:ε->aC α}(h:∀a,o=some a->C.Snd A t ρ (Mine.onS (k a) λ x=>f (g x)) rel s):C.Snd A t ρ (Mine.onS ((o.bind k).map g) f) rel s:=by
 induction o with
 |none=>exact .of_bad
 |some a=>
  have h:=h a rfl;show C.Snd A t ρ (Mine.onS ((k a).map g) f) rel s;induction q:k a with
  |none=>exact .of_bad
  |some x=>rw[q]at h;exact h
theorem Cx.Snd.onI{δ:Type}{b:Bool}{x:Option δ}{f:δ->aC α}(h:b=true->C.Snd A t ρ (Mine.onS x f) rel s):C.Snd A t ρ (Mine.onS (if b=true then x else none) f) rel s:=by
 induction b with
 |false=>exact .of_bad
 |true=>exact h rfl
theorem Cx.Ret.up{ρ1:List aR}{hH:cG}{tk1:Nat}{b:β}{s':aD}(h:C.Ret (ρ++ρ1) {s with heap:=hH,toks:=tk1} r rel b s'):C.Ret ρ s r rel b s':=by
 obtain⟨a,Y',h',tk,ρ',e,rfl,R,x⟩:=h;rw[aj]at R x;exact⟨a,Y',h',tk,ρ1++ρ',e,rfl,R,x⟩
theorem Cx.Exn.up{ρ1:List aR}{hH:cG}{tk1:Nat}{e:ao}{s':aD}(h:C.Exn (ρ++ρ1) {s with heap:=hH,toks:=tk1} r e s'):C.Exn ρ s r e s':=by
 obtain⟨x,Y',h',tk,ρ',e,rfl,X⟩:=h;rw[aj]at X;exact⟨x,Y',h',tk,ρ1++ρ',e,rfl,X⟩
theorem Cx.Ret.same{hH:cG}{tk1:Nat}{b:β}{s':aD}(h:C.Ret ρ {s with heap:=hH,toks:=tk1} r rel b s'):C.Ret ρ s r rel b s':=
 let ⟨a,Y',h',tk,ρ',e,es,R,x⟩:=h;⟨a,Y',h',tk,ρ',e,es,R,x⟩
theorem Cx.Exn.same{hH:cG}{tk1:Nat}{e:ao}{s':aD}(h:C.Exn ρ {s with heap:=hH,toks:=tk1} r e s'):C.Exn ρ s r e s':=
 let ⟨x,Y',h',tk,ρ',e,es,X⟩:=h;⟨x,Y',h',tk,ρ',e,es,X⟩
theorem Cx.same{M:Model}{hH:cG}{tk1:Nat}{sC:aD}(h:bI M A t (C.Ret ρ {s with heap:=hH,toks:=tk1} r rel) (C.Exn ρ {s with heap:=hH,toks:=tk1} r) sC):bI M A t (C.Ret ρ s r rel) (C.Exn ρ s r) sC:=
 cO h (λ _ _=>.same) λ _ _=>.same
theorem Cx.Snd.told{a:α}{Y':St}{Q:β->aD->Prop}{E:ao->aD->Prop}(h:C.Snd A t ρ r rel s)(e:r=.ok a Y')
  (k:∀b h' tk ρ',C.Rep (ρ++ρ') h' Y'->rel (ρ++ρ') a b->Q b {s with heap:=h',toks:=tk}):bI (model C.prog C.w) A t Q E s:=by
 subst e;refine cO (h λ q=>by contradiction) ?_ ?_
 ·rintro b s' ⟨a,Y',h',tk,ρ',e,rfl,R,x⟩;obtain⟨rfl,rfl⟩:=aC.ok.inj e;exact k b h' tk ρ' R x
 ·rintro e s' ⟨x,Y',h',tk,ρ',e1,_⟩;contradiction
theorem Cx.Snd.thrown{Y':St}{Q:β->aD->Prop}{E:ao->aD->Prop}(h:C.Snd A t ρ r rel s){x:Gi}(e:r=.exc x Y')
  (k:∀e h' tk ρ',C.XR x (ρ++ρ') Y' e h'->E e {s with heap:=h',toks:=tk}):bI (model C.prog C.w) A t Q E s:=by
 subst e;refine cO (h λ q=>by contradiction) ?_ ?_
 ·rintro b s' ⟨a,Y',h',tk,ρ',e,_⟩;contradiction
 ·rintro e s' ⟨x,Y',h',tk,ρ',e1,rfl,X⟩;obtain⟨rfl,rfl⟩:=aC.exc.inj e1;exact k e h' tk ρ' X
theorem Cx.Snd.pure{a:α}{b:β}(R:C.Rep ρ s.heap Y)(x:rel ρ a b):C.Snd A (pure b) ρ (.ok a Y) rel s:=λ _=>aB (Cx.ret0 R x)
theorem Cx.Snd.bind{f:β->Sem β'}{rk:α->St->aC α'}(h:C.Snd A t ρ r rel s)
  (k:∀a Y' b h' tk ρ',r=.ok a Y'->C.Rep (ρ++ρ') h' Y'->rel (ρ++ρ') a b->C.Snd A (f b) (ρ++ρ') (rk a Y') rel' {s with heap:=h',toks:=tk}):
  C.Snd A (t >>= f) ρ (r.bind rk) rel' s:=by
 intro hb;induction r with
 |bad=>exact absurd rfl hb
 |exc x Y'=>exact ak (h.thrown rfl λ e h' tk ρ' X=>⟨x,Y',h',tk,ρ',rfl,rfl,X⟩)
 |ok a Y'=>exact ak (h.told rfl λ b h' tk ρ' R x=>cO (k a Y' b h' tk ρ' rfl R x hb) (λ _ _=>.up) λ _ _=>.up)
theorem Cx.Snd.map{rel2:List aR->α->β'->Prop}{f:β->Sem β'}(h:C.Snd A t ρ r rel s)
  (k:∀a Y' b h' tk ρ',r=.ok a Y'->C.Rep (ρ++ρ') h' Y'->rel (ρ++ρ') a b->C.Snd A (f b) (ρ++ρ') (.ok a Y') rel2 {s with heap:=h',toks:=tk}):
  C.Snd A (t >>= f) ρ r rel2 s:=by
 rw[(by clear h k;induction r<;>rfl:r=r.bind λ a Y=>.ok a Y)];exact h.bind k
theorem Cx.Snd.holding{vs:List ao}(h:C.Snd A t ρ r rel s):C.Snd A (PySem.holding vs t) ρ r rel s:=λ q=>cJ (h q)
theorem Cx.Snd.unhold{vs:List ao}{f:β->Sem β'}{r:aC α'}{rel:List aR->α'->β'->Prop}(h:C.Snd A (t >>= f) ρ r rel s):C.Snd A (PySem.holding vs t >>= f) ρ r rel s:=λ q Γ p hΓ=>by
 have:=h q Γ p hΓ;simp only[Sem.wp_bind',Sem.wp_holding]at this ⊢;exact this
theorem Cx.Snd.first{f:Unit->Sem β}{u:Sem Unit}(hu:∀{E}{Q:Unit->aD->Prop},Q () s->bI (model C.prog C.w) A u Q E s)(h:C.Snd A (f ()) ρ r rel s):C.Snd A (u >>= f) ρ r rel s:=λ q=>ak (hu (h q))
theorem Cx.Snd.at{f:Unit->Sem β}{p:Pos}(h:C.Snd A (f ()) ρ r rel s):C.Snd A (standAt p >>= f) ρ r rel s:=λ q=>ak (mz (h q))
theorem Cx.Snd.mono{rel2:List aR->α->β->Prop}(h:C.Snd A t ρ r rel s)(hr:∀ρ' a b,rel ρ' a b->rel2 ρ' a b):C.Snd A t ρ r rel2 s:=
 λ q=>cO (h q) (λ _ _ ⟨a,Y',h',tk,ρ',e1,e2,e3,e4⟩=>⟨a,Y',h',tk,ρ',e1,e2,e3,hr _ _ _ e4⟩) λ _ _ x=>x
end
noncomputable abbrev anM:List aR->V->ao->Prop:=VR
noncomputable abbrev aa8:List aR->Bool->Bool->Prop:=λ _ a b=>a=b
noncomputable abbrev rB{α:Type}:List aR->α->Unit->Prop:=λ _ _ _=>True
section
variable {C:Cx}{A:bJ}{ρ:List aR}{s:aD}{Y:St}
theorem rC{M:Model}{E:ao->aD->Prop}{keep:List ao}:∀{vs:List ao}{Q:Unit->aD->Prop},Q () s->bI M A (release vs keep) Q E s:=by
 intro vs Q h;unfold release;generalize(vs.filter λ|.ref _=>true|_=>false)=l;induction l with
 |nil=>exact aB h
 |cons a r ih=>
  induction r with
  |nil=>exact aB h
  |cons b r=>exact ak (cJ (wpAny_point ih))
theorem Cx.Snd.operate{vs:List ao}{t:Sem ao}{α:Type}{r:aC α}{rel:List aR->α->ao->Prop}(h:C.Snd A t ρ r rel s):C.Snd A (PySem.operate vs t) ρ r rel s:=by
 refine Cx.Snd.map h.holding λ a Y' b h' tk ρ' e R x=>?_
 exact λ _=>ak (rC (aB (Cx.ret0 R x)))
end
theorem jC{n:Nat}(h:small n=true):n<=100000:=of_decide_eq_true h
theorem gJ{n:Nat}(h:small n=true):n<=ig:=bT (jC h) (by decide)
theorem yq{n:Nat}(h:small n=true):(n:Int) < 2 ^ 63:=by have:=jC h;lia
section
variable {C:Cx}{A:bJ}{ρ:List aR}{s:aD}{Y:St}
inductive ahP(h:cG)(ρ:List aR)(a:aR)(xs:List V):Prop
 |mk (cs:Array ao) (n:Nat) (h1:IsL h a cs n) (h2:cX (VR ρ) xs cs.toList)
inductive aj6(h:cG)(ρ:List aR)(a:aR)(xs:List V):Prop
 |mk (cs:Array ao) (n:Fin 1) (h1:h.get? a=some {cls:=.type "tuple",dict:=none,data:=.seq cs n.val,slots:=#[]}) (h2:cX (VR ρ) xs cs.toList)
theorem Cx.Rep.list(R:C.Rep ρ s.heap Y){i:Nat}{a:aR}{xs:List V}(e:Y.sto[i]?=some (.list xs))(ha:ρ[i]?=some a):ahP s.heap ρ a xs:=by
 obtain⟨co,h1,cs,n,rfl,h2⟩:=R.objs i _ a e ha;exact⟨cs,n,h1,h2⟩
theorem Cx.Rep.tup(R:C.Rep ρ s.heap Y){i:Nat}{a:aR}{xs:List V}(e:Y.sto[i]?=some (.tup xs))(ha:ρ[i]?=some a):aj6 s.heap ρ a xs:=by
 obtain⟨co,h1,cs,n,rfl,h2⟩:=R.objs i _ a e ha;exact⟨cs,n,h1,h2⟩
theorem Cx.Rep.new1(R:C.Rep ρ s.heap Y){o:O}{co:Obj}(hf:co.isFreed=false)(ho:OR C.prog C.w (ρ++[s.heap.objs.size]) o co):
  C.Rep (ρ++[s.heap.objs.size]) (s.heap.push co) {Y with sto:=Y.sto++[o]}:=Mine.Rep.push R hf ho
theorem Cx.Rep.lenEq(R:C.Rep ρ s.heap Y):ρ.length=Y.sto.length:=Mine.Rep.len R
theorem tM{x:aR}{n:Nat}(e:ρ.length=n):VR (ρ++[x]) (.ref n) (.ref x):=⟨x,by subst e;simp,rfl⟩
theorem yr(R:C.Rep ρ s.heap Y){t:Sem ao}{o:O}{co:Obj}(hf:co.isFreed=false)(ho:OR C.prog C.w (ρ++[s.heap.objs.size]) o co)
  (h:∀{E:ao->aD->Prop}{Q:ao->aD->Prop},(∀tk,Q (.ref s.heap.objs.size) {s with heap:=s.heap.push co,toks:=tk})->bI (model C.prog C.w) A t Q E s):
  C.Snd A t ρ (Y.new o) VR s:=λ _=>h λ _=>Cx.ret1 (R.new1 hf ho) (tM R.lenEq)
theorem nY{v:V}{c:ao}{i:Int}(h:VR ρ v c)(e:v.int? =some i):∃t,c=.int i t:=by
 induction v<;>first|exact ns e|(cases e;exact h)
theorem tO{v:V}{c:ao}{x:Str}(h:VR ρ v c)(e:v.str? =some x):∃t,c=.str x t:=by
 induction v<;>first|exact ns e|(cases e;exact h)
theorem vD{v:V}{c:ao}{n:Nat}(h:VR ρ v c)(e:v.ref? =some n):∃a,ρ[n]?=some a/\c=.ref a:=by
 induction v<;>first|exact ns e|(cases e;exact h)
theorem aa9{o:O}{x:List V}(h:o.list? =some x):o=.list x:=by induction o<;>first|exact ns h|(cases h;rfl)
theorem abb{o:O}{x:List (Str×V)×Nat}(h:o.dict? =some x):o=.dict x.1 x.2:=by induction o<;>first|exact ns h|(cases h;rfl)
theorem ala{o:O}{x:List V}(h:o.tup? =some x):o=.tup x:=by induction o<;>first|exact ns h|(cases h;rfl)
theorem abd{o:O}{x:V}(h:o.cell? =some x):o=.cell (some x):=by induction o<;>first|exact ns h|exact congrArg O.cell h
theorem alb{o:O}{x:Nat×Nat}(h:o.eit? =some x):o=.eit x.1 x.2:=by induction o<;>first|exact ns h|(cases h;rfl)
theorem XQ{o:O}{x:Nat×Nat}(h:o.liter? =some x):o=.liter x.1 x.2:=by induction o<;>first|exact ns h|(cases h;rfl)
theorem Kd{o:O}{x:Nat}(h:o.bnext? =some x):o=.bnext x:=by induction o<;>first|exact ns h|(cases h;rfl)
theorem uy{α:Type}{f:O->Option α}{g:α->O}(hg:∀o x,f o=some x->o=g x){i:Nat}{a:α}(h:(Y.sto[i]?).bind f=some a):Y.sto[i]?=some (g a):=
 let ⟨_,e,q⟩:=bk.mp h;e.trans (congrArg some (hg _ _ q))
theorem iZ{i:Nat}{xs:List V}(h:Y.list? i=some xs):Y.sto[i]?=some (.list xs):=uy (g:=.list) (λ _ _=>aa9) h
theorem oZ{i:Nat}{p:List (Str×V)×Nat}(h:Y.dict? i=some p):Y.sto[i]?=some (.dict p.1 p.2):=uy (g:=λ p=>.dict p.1 p.2) (λ _ _=>abb) h
theorem yt{a b:V}{ca cb:ao}(ha:VR ρ a ca)(hb:VR ρ b cb){t:Sem ao}{k:Int->Int->aC V}(h:∀i j t' u,ca=.int i t'->cb=.int j u->C.Snd A t ρ (k i j) VR s):C.Snd A t ρ (Qk a b k) VR s:=
 .onS λ i e1=>.onS λ j e2=>let ⟨t',q1⟩:=nY ha e1;let ⟨u,q2⟩:=nY hb e2;h i j t' u q1 q2
theorem abe(R:C.Rep ρ s.heap Y){a b:V}{ca cb:ao}(ha:VR ρ a ca)(hb:VR ρ b cb):C.Snd A (binaryOp .Add ca cb) ρ (ru a b Y) VR s:=by
 induction a with
 |int i=>
  obtain⟨t,rfl⟩:=ha;refine .onS λ j e=>?_
  obtain⟨u,rfl⟩:=nY hb e;exact λ _=>P.add_int (Cx.ret0 R ⟨_,rfl⟩)
 |str x=>
  obtain⟨t,rfl⟩:=ha;refine .onS λ j e=>.grd λ hs=>?_
  obtain⟨u,rfl⟩:=tO hb e;exact λ _=>PyProof.Rows.add_str (λ t' tk=>Cx.ret0 R ⟨_,rfl⟩) (gJ hs)
 |ref i=>
  obtain⟨a,ha,rfl⟩:=ha;refine .onS λ j e=>.onS λ xs e1=>.onS λ ys e2=>.grd λ hs=>?_
  obtain⟨b',hb',rfl⟩:=vD hb e;obtain⟨cs,n,h1,h2⟩:=R.list (iZ e1) ha;obtain⟨ds,m,h3,h4⟩:=R.list (iZ e2) hb';have hl:cs.size+ds.size<=ig:=by
   rw[<-gQ,<-gQ,<-h2.length,<-h4.length];exact gJ hs
  exact yr R rfl ⟨_,_,rfl,by rw[Array.toList_append];exact(h2.append h4).mono λ _ _=>VR.mono⟩ λ q=>P.add_list h1 h3 (q s.toks) hl
 |_=>exact .of_bad
theorem XS(c:ao)(n:Nat):∀acc:List ao,List.foldl (λ x1 x2=>x1++x2) acc.toArray (bQ n #[c])=(acc++bQ n c).toArray:=by
 induction n with
 |zero=>intro acc;simp
 |succ n ih=>
  intro acc;rw[lW,eU,show acc.toArray++#[c]=(acc++[c]).toArray by simp,ih,lW,aj];rfl
theorem X3(R:C.Rep ρ s.heap Y){a b:V}{ca cb:ao}(ha:VR ρ a ca)(hb:VR ρ b cb):C.Snd A (binaryOp .Mult ca cb) ρ (GJ a b Y) VR s:=by
 induction a with
 |ref i=>
  obtain⟨a,ha,rfl⟩:=ha;refine .onS λ j e=>.onS λ xs e1=>.onS λ x e2=>.grd λ hs=>?_
  obtain⟨u,rfl⟩:=nY hb e;simp only[bh]at hs;obtain⟨cs,n,h1,h2⟩:=R.list (iZ e1) ha;have hj:j.toNat<=100000:=jC hs.1;rw[mj e2]at h2;obtain⟨c,_,ec,hc,h2⟩:=h2.cons_inv;rw[h2.nil_inv]at ec;cases CQ ec;refine yr R (co:={cls:=.type "list",data:=.seq (bQ j.toNat c).toArray}) rfl ⟨_,_,rfl,by exact(cX.replicate hc _).mono λ _ _=>VR.mono⟩ λ q=>?_
  have:=q s.toks;refine wpAny_binaryOp_repeat_ref (T:="list") (U:="int") (by decide) ⟨_,h1,rfl⟩ (λ s'=>typeIs_int s' j u) noFill_list_mul F.fills_int_mul F.slot_int_rmul repeat_list F.slot_int_index.lookup
   (call_meets F.slot_int_rmul (typeIs_int s j u) F.entry_int_rmul (F.args_int_rmul_2 _ _) (int___rmul___int_list j u a _ n)
    ⟨h1,rfl,⟨_,h1,rfl⟩,call_meets F.slot_list_mul ⟨_,h1,rfl⟩ F.entry_list_mul (F.args_list_mul_2 _ _)
     (AutoListH.list___mul___list_int_3 a _ n j u (by simp[Builtin.List.listFitsIndex];lia) (by simp;lia) (by simp[Builtin.List.listTooLong,ig];lia))
     ⟨h1,by rw[show(List.foldl (λ x1 x2=>x1++x2) #[] (bQ (if(#[c]:Array ao).isEmpty=true then 0 else j.toNat) #[c]))=(bQ j.toNat c).toArray from XS c j.toNat []];exact this⟩⟩)
 |str x=>
  obtain⟨t,rfl⟩:=ha;refine .onS λ j e=>.grd λ hs=>?_
  obtain⟨u,rfl⟩:=nY hb e;have:=jC (of_decide_eq_true hs).2.2;exact λ _=>SB.mul (mulOk_of 1 100000 (by lia) (by lia) (by lia) (by simp) (by lia)) λ t' k=>Cx.ret0 R ⟨_,rfl⟩
 |_=>exact .of_bad
set_option tactic.hygienic true in
theorem abf(R:C.Rep ρ s.heap Y){op:Operator}{a b:V}{ca cb:ao}(ha:VR ρ a ca)(hb:VR ρ b cb):C.Snd A (binaryOp op ca cb) ρ (nQ op a b Y) VR s:=by
 induction op
 case Add=>exact abe R ha hb
 case Sub=>exact yt ha hb λ i j t u e3 e4=>by subst e3 e4;exact λ _=>P.sub_int (Cx.ret0 R ⟨_,rfl⟩)
 case Mult=>exact X3 R ha hb
 case FloorDiv=>
  refine yt ha hb λ i j t u e3 e4=>?_
  subst e3 e4;split
  ·exact .of_bad
  ·rename_i hj
   exact λ _=>floordiv_int (by lia) (Cx.ret0 R ⟨_,rfl⟩) (.inl (PyProof.noPylong_small (by lia)))
 case Mod=>
  refine yt ha hb λ i j t u e3 e4=>?_
  subst e3 e4;split
  ·exact .of_bad
  ·rename_i hj
   exact λ _=>mod_int' hj (Cx.ret0 R ⟨_,rfl⟩)
 all_goals exact .of_bad
theorem Ke(R:C.Rep ρ s.heap Y){op:Operator}{a b:V}{ca cb:ao}(ha:VR ρ a ca)(hb:VR ρ b cb):C.Snd A (inplaceOp op ca cb) ρ (sY op a b Y) VR s:=by
 induction op
 case Add=>
  induction a with
  |int i=>
   obtain⟨t,rfl⟩:=ha;refine .onS λ j e=>?_
   obtain⟨u,rfl⟩:=nY hb e;exact λ _=>P.iadd_int (Cx.ret0 R ⟨_,rfl⟩)
  |str x=>
   obtain⟨t,rfl⟩:=ha;refine .onS λ j e=>.grd λ hs=>?_
   obtain⟨u,rfl⟩:=tO hb e;exact λ _=>PyProof.Rows.iadd_str (λ t' tk=>Cx.ret0 R ⟨_,rfl⟩) (gJ hs)
  |_=>exact .of_bad
 case Sub=>exact yt ha hb λ i j t u e3 e4=>by clear hb;subst e3 e4;exact λ _=>P.isub_int (Cx.ret0 R ⟨_,rfl⟩)
 all_goals exact .of_bad
noncomputable def SR(y:Str)(c:ao):Prop:=∃t,c=.str y t
theorem rD:∀{xs:List V}{ys:List Str}{cs:List ao},jP xs=some ys->cX (VR ρ) xs cs->cX SR ys cs:=by
 intro xs;induction xs with
 |nil=>intro ys cs e h;cases e;cases h;exact .nil
 |cons x r ih=>
  intro ys cs e h;cases h with
  |cons h1 h2=>
   induction x with
   |str y=>
    obtain⟨l,e1,rfl⟩:=bx.mp (show(jP r).map (y::·)=some ys from e);exact .cons h1 (ih e1 h2)
   |_=>exact ns e
theorem ahQ{y z:Str}(h:y.cps.toList=z.cps.toList):y=z:=by
 obtain⟨y⟩:=y;obtain⟨z⟩:=z;simp only[Str.mk.injEq];exact vf.mp h
theorem WT(y z:Str):(y.cps.toList==z.cps.toList)=decide (y=z):=by
 by_cases hyz:y=z
 ·subst hyz;simp
 ·have:(y.cps.toList==z.cps.toList)=false:=by
   rw[beq_eq_false_iff_ne];exact λ e=>hyz (ahQ e)
  simp only[this,decide_eq_false hyz]
theorem Kf{ys:List Str}{cs:Array ao}{zs:List Str}{ds:Array ao}(h:cX SR ys cs.toList)(h':cX SR zs ds.toList){j:Nat}(h1:j < cs.size)(h2:j < ds.size)(A:bJ)(s:aD):
  SeqAt.EqAt A s cs[j] ds[j] (decide (ys[j]?=zs[j]?)):=by
 obtain⟨y,e1,t,e2⟩:=h.getR (i:=j) (b:=cs[j]) (by simp[h1]);obtain⟨z,e3,u,e4⟩:=h'.getR (i:=j) (b:=ds[j]) (by simp[h2]);simp only[e2,e4,e1,e3];have:=(SeqRoads2.EqGives.str y z t u).at A s;simp only[WT]at this;simpa using this
theorem Ak{ys zs:List Str}(h:ys.length=zs.length){n:Nat}(hn:n=ys.length):((gj n).all λ j=>decide (ys[j]?=zs[j]?))=(ys==zs):=by
 subst hn;by_cases e:ys=zs
 ·subst e;simp
 ·have:(ys==zs)=false:=by simpa using e
  simp only[this];rw[List.all_eq_false];apply Classical.byContradiction
  intro q;refine e (List.ext_getElem? λ i=>?_);by_cases hi:i < ys.length
  ·apply Classical.byContradiction
   intro q';exact q ⟨i,List.mem_range.mpr hi,by simpa using q'⟩
  ·rw[List.getElem?_eq_none (by lia),List.getElem?_eq_none (by lia)]
noncomputable def WW(x:Str)(c:ao):Bool:=match c with
 |.str y _=>decide (y=x)
 |_=>false
theorem Qv{ys:List Str}{cs:List ao}(h:cX SR ys cs)(x:Str):cs.any (WW x)=ys.contains x:=by
 induction h with
 |nil=>rfl
 |@cons y c ys cs h1 h2 ih=>
  obtain⟨t,rfl⟩:=h1;simp only[p6];congr 1;show decide (y=x)=(x==y);clear ih;by_cases e:y=x
  ·subst e;simp
  ·have e':¬ x=y:=λ q=>e q.symm
   simp[e,e']
theorem abg{ys:List Str}{cs:List ao}(h:cX SR ys cs){c:ao}(hc:c∈cs):∃y t,c=.str y t:=by
 induction h with
 |nil=>first|exact ns hc|exact qW hc|cases hc
 |cons h1 _ ih=>
  cases hc with
  |head=>obtain⟨t,rfl⟩:=h1;exact⟨_,t,rfl⟩
  |tail _ hc=>exact ih hc
end
noncomputable abbrev Al:List aR->Bool->ao->Prop:=λ _ b c=>c=.bool b
noncomputable def AUn(A:bJ):Prop:=A.units+100 < cLine
section
variable {C:Cx}{A:bJ}{ρ:List aR}{s:aD}{Y:St}
theorem Cx.Rep.dict(R:C.Rep ρ s.heap Y){i:Nat}{a:aR}{kvs:List (Str×V)}{ep:Nat}(e:Y.sto[i]?=some (.dict kvs ep))(ha:ρ[i]?=some a):
  ∃ckvs,Heap.DictAt (strKind C.prog C.w) s.heap a ckvs ep/\cX (Kc ρ) kvs ckvs:=by
 obtain⟨co,h1,es,ckvs,rfl,h2,h3,h4,h5⟩:=R.objs i _ a e ha;exact⟨ckvs,⟨_,es,h1,⟨rfl,rfl,rfl⟩,rfl,h2,h3,h4⟩,h5⟩
theorem qb{kvs:List (Str×V)}{ckvs:List (Str×ao)}(h:cX (Kc ρ) kvs ckvs)(x:Str):match kvs.lookup x with
  |some v=>∃c,valueAt ckvs x=some c/\VR ρ v c
  |none=>valueAt ckvs x=none:=by
 induction h with
 |nil=>rfl
 |@cons p q kvs ckvs h1 h2 ih=>
  obtain⟨k,v⟩:=p;obtain⟨k',c⟩:=q;obtain⟨e,hv⟩:=h1;dsimp only at e hv;subst e;by_cases hk:x=k
  ·subst hk;rw[dG,beq_self_eq_true];exact⟨c,by simp[valueAt],hv⟩
  ·have h1:(x==k)=false:=by simpa using hk
   have h2:¬ k=x:=λ e=>hk e.symm
   rw[dG,h1,(by simp[valueAt,h2]:valueAt ((k,c)::ckvs) x=valueAt ckvs x)];exact ih
theorem TP{α:Type}(kvs:List (Str×α))(x:Str):(kvs.any λ p=>p.1==x)=(kvs.lookup x).isSome:=by
 induction kvs with
 |nil=>rfl
 |cons p r ih=>
  obtain⟨k,v⟩:=p;by_cases hk:x=k
  ·subst hk;simp
  ·have h1:(x==k)=false:=by simpa using hk
   simp only[p6,(by simpa using λ e:k=x=>hk e.symm:(k==x)=false),dG,h1];exact ih
theorem tQ{kvs:List (Str×V)}{ckvs:List (Str×ao)}(h:cX (Kc ρ) kvs ckvs)(x:Str):(valueAt ckvs x).isSome=kvs.any λ p=>p.1==x:=by
 have:=qb h x;rw[TP];induction e:kvs.lookup x with
 |none=>rw[e]at this;rw[this];rfl
 |some v=>rw[e]at this;obtain⟨c,h1,_⟩:=this;rw[h1];rfl
theorem gw{xs:List V}{cs:Array ao}(h:cX (VR ρ) xs cs.toList):cs.size=xs.length:=by rw[h.length];simp
theorem zb{xs:List Str}{cs:Array ao}(h:cX SR xs cs.toList):cs.size=xs.length:=by rw[h.length];simp
theorem agL(x:Str)(t:Tok){cs:Array ao}{ys:List Str}(h:cX SR ys cs.toList):∀y,y∈cs->MeetsSeq.EqGives y (.str x t) (WW x y):=by
 intro y hy;obtain⟨z,u,rfl⟩:=abg h (lu.mpr hy);have:=SeqRoads2.EqGives.str z x u t;simp only[WT]at this;exact this
theorem afh{v:V}{c:ao}(h:VR ρ v c):(c==Value.none)=decide (v=V.none):=by
 induction v with
 |none=>subst h;rfl
 |bool b=>subst h;rfl
 |int i=>obtain⟨t,rfl⟩:=h;rfl
 |str x=>obtain⟨t,rfl⟩:=h;rfl
 |ref n=>obtain⟨a,_,rfl⟩:=h;rfl
 |fn a=>subst h;rfl
 |bi b=>subst h;induction b<;>rfl
theorem WX(R:C.Rep ρ s.heap Y){a b:V}{ca cb:ao}(ha:VR ρ a ca)(hb:VR ρ b cb){t:Sem ao}{f:Bool->Bool}(h1:cb=.none->C.Snd A t ρ (.ok (f (ca==Value.none)) Y) Al s)(h2:∀x y,ca=.bool x->cb=.bool y->C.Snd A t ρ (.ok (f (x==y)) Y) Al s):C.Snd A t ρ (onS (Tq a b) λ b=>.ok (f b) Y) Al s:=by
 induction b with
 |none=>rw[afh ha]at h1;exact h1 hb
 |bool y=>induction a with
  |bool x=>exact h2 x y ha hb
  |_=>exact .of_bad
 |_=>exact .of_bad
theorem Qw(R:C.Rep ρ s.heap Y){a b:V}{ca cb:ao}(ha:VR ρ a ca)(hb:VR ρ b cb){t:ao->ao->Sem ao}{fs:Str->Str->Bool}{fi:Int->Int->Bool}{fl:List Str->List Str->Bool}
  (h1:∀x y t' u,C.Snd A (t (.str x t') (.str y u)) ρ (.ok (fs x y) Y) Al s) (h2:∀i j t' u,C.Snd A (t (.int i t') (.int j u)) ρ (.ok (fi i j) Y) Al s)
  (h3:∀a b x y (cs ds:Array ao) n m,IsL s.heap a cs n->IsL s.heap b ds m->cX SR x cs.toList->cX SR y ds.toList->C.Snd A (t (.ref a) (.ref b)) ρ (.ok (fl x y) Y) Al s):C.Snd A (t ca cb) ρ (bA (ahB a b Y fs fi fl) Y) Al s:=by
 induction a with
 |str x=>
  obtain⟨t',rfl⟩:=ha;refine .onM λ y e=>?_
  obtain⟨u,rfl⟩:=tO hb e;exact h1 x y t' u
 |int x=>
  obtain⟨t',rfl⟩:=ha;refine .onM λ y e=>?_
  obtain⟨u,rfl⟩:=nY hb e;exact h2 x y t' u
 |ref i=>
  obtain⟨a,ha,rfl⟩:=ha;refine .onB λ j e=>.onB λ xs e1=>.onB λ ys e2=>.onB λ x e3=>.onB λ y e4=>.onI λ _=>?_
  obtain⟨b',hb',rfl⟩:=vD hb e;obtain⟨cs,n,q1,q2⟩:=R.list (iZ e1) ha;obtain⟨ds,m,q3,q4⟩:=R.list (iZ e2) hb';exact h3 _ _ _ _ _ _ _ _ q1 q3 (rD e3 q2) (rD e4 q4)
 |_=>exact .of_bad
theorem Qx(R:C.Rep ρ s.heap Y)(hA:AUn A){op:CmpOp}{a b:V}{ca cb:ao}(ha:VR ρ a ca)(hb:VR ρ b cb):
  C.Snd A (compareOp op ca cb) ρ (bA (zG op a b Y) Y) Al s:=by
 have hu:A.units < cLine:=jR (d8 _ _) hA;induction op
 case Eq=>
  refine Qw (t:=compareOp .Eq) R ha hb (λ _ _ _ _=>λ _=>PyProof.Rows.eq_str (Cx.ret0 R rfl)) (λ _ _ _ _=>λ _=>P.eq_int (Cx.ret0 R rfl)) λ a b x y cs ds n m h1 h3 h2 h4=>?_
  by_cases hl:x.length=y.length
  ·refine λ _=>SeqAt.eq_listAt h1.isList h3.isList (by rw[zb h2,zb h4,hl]) hu (λ j q1 q2=>Kf h2 h4 q1 q2 _ _) (Cx.ret0 R ?_)
   rw[Ak hl (zb h2)]
  ·exact λ _=>SeqAt.eq_list_lengthsAt h1.isList h3.isList (by rw[zb h2,zb h4];exact bne_iff_ne.mpr hl) hu (Cx.ret0 R (congrArg Value.bool (beq_eq_false_iff_ne.mpr λ e=>hl (by rw[e])).symm))
 case NotEq=>
  refine Qw (t:=compareOp .NotEq) R ha hb (λ _ _ _ _=>λ _=>PyProof.Rows.ne_str (Cx.ret0 R rfl)) (λ _ _ _ _=>λ _=>P.ne_int (Cx.ret0 R rfl)) λ a b x y cs ds n m h1 h3 h2 h4=>?_
  by_cases hl:x.length=y.length
  ·refine λ _=>SeqAt.RcNeAt.lists h1.isList h3.isList (by rw[zb h2,zb h4,hl]) hu (λ j q1 q2=>Kf h2 h4 q1 q2 _ _) _ _ _ _ (Cx.ret0 R ?_)
   rw[Ak hl (zb h2)];rfl
  ·exact λ _=>SeqAt.RcNeAt.lists_lengths h1.isList h3.isList (by rw[zb h2,zb h4];exact bne_iff_ne.mpr hl) hu _ _ _ _ (Cx.ret0 R (congrArg Value.bool (bne_iff_ne.mpr λ e=>hl (by rw[e])).symm))
 case Lt=>
  refine .onB λ i e1=>.onM λ j e2=>?_
  obtain⟨t,rfl⟩:=nY ha e1;obtain⟨u,rfl⟩:=nY hb e2;exact λ _=>P.lt_int (Cx.ret0 R rfl)
 case GtE=>
  refine .onB λ i e1=>.onM λ j e2=>?_
  obtain⟨t,rfl⟩:=nY ha e1;obtain⟨u,rfl⟩:=nY hb e2;exact λ _=>P.ge_int (Cx.ret0 R rfl)
 case Is=>exact WX (f:=λ b=>b) R ha hb (λ e=>by subst e;exact λ _=>is_none_gen (Cx.ret0 R rfl)) λ x y e1 e2=>by subst e1 e2;exact λ _=>PyProof.Rows.is_bool (Cx.ret0 R rfl)
 case IsNot=>
  refine(?_:C.Snd A _ ρ (onS ((Tq a b).map λ t=>!t) λ b=>.ok b Y) Al s);have:=WX (f:=λ b=>!b) R ha hb (A:=A) (t:=compareOp .IsNot ca cb) (λ e=>by subst e;exact λ _=>isnot_none_gen (Cx.ret0 R rfl)) λ x y e1 e2=>by subst e1 e2;exact λ _=>PyProof.Rows.isnot_bool (Cx.ret0 R rfl)
  induction q:Tq a b with
  |none=>exact .of_bad
  |some r=>rw[q]at this;exact this
 case In=>
  refine .onB λ x e1=>.onB λ j e2=>.onB λ o e=>?_
  obtain⟨t,rfl⟩:=tO ha e1;obtain⟨b',hb',rfl⟩:=vD hb e2;induction o with
  |dict kvs ep=>
   obtain⟨ckvs,h1,h2⟩:=R.dict e hb';exact λ _=>wpAny_in_of (strKind_is _ _ _ _) (Mine.Rep.sys R _ (bG hb')) h1.dictOf.mapOf (Cx.ret0 R (by rw[tQ h2]))
  |set xs=>
   refine .onI λ hs=>?_
   obtain⟨co,hco,hf⟩:=R.objs _ _ _ e hb';exact λ _=>wpAny_inSet_of (strKind_is _ _ _ _) rfl (hf.setOf hco (by unfold scanBound;lia)) (Cx.ret0 R rfl)
  |list ys=>
   refine .onB λ y e2=>.onI λ _=>?_
   obtain⟨cs,n,h1,h2⟩:=R.list e hb';have h2:=rD e2 h2;refine λ _=>SeqRoads2.in_list _ (agL _ _ h2) h1 (Cx.ret0 R ?_)
   rw[<-Qv h2,pM]
  |_=>exact .of_bad
 case NotIn=>
  refine .onM' λ x e1=>.onB λ j e2=>.onB λ o e=>?_
  obtain⟨t,rfl⟩:=tO ha e1;obtain⟨b',hb',rfl⟩:=vD hb e2;induction o with
  |dict kvs ep=>
   obtain⟨ckvs,h1,h2⟩:=R.dict e hb';exact λ _=>wpAny_notIn_of (strKind_is _ _ _ _) (Mine.Rep.sys R _ (bG hb')) h1.dictOf.mapOf (Cx.ret0 R (by rw[tQ h2]))
  |list ys=>
   refine .onB λ y e2=>.onI λ _=>?_
   obtain⟨cs,n,h1,h2⟩:=R.list e hb';have h2:=rD e2 h2;refine λ _=>SeqRoads2.notIn_list _ (agL _ _ h2) h1 (Cx.ret0 R ?_)
   rw[<-Qv h2,pM]
  |_=>exact .of_bad
 all_goals exact .of_bad
theorem Hg{xs:List V}{cs:Array ao}(h:cX (VR ρ) xs cs.toList):(!xs.isEmpty)=!cs.isEmpty:=by
 obtain⟨l⟩:=cs;cases h<;>rfl
theorem zL(R:C.Rep ρ s.heap Y){a:V}{ca:ao}(ha:VR ρ a ca):C.Snd A (truthy ca) ρ (bA (cL a Y) Y) aa8 s:=by
 induction a with
 |none=>subst ha;exact λ _=>truthy_none (Cx.ret0 R rfl)
 |bool b=>subst ha;exact λ _=>tK (Cx.ret0 R rfl)
 |int i=>obtain⟨t,rfl⟩:=ha;exact λ _=>P.truthy_int (Cx.ret0 R rfl)
 |str x=>
  obtain⟨t,rfl⟩:=ha;refine .onI λ hs=>?_
  have:=jC hs;refine λ _=>P.truthy_str (by lia) (Cx.ret0 R ?_)
  generalize x.length=n;induction n<;>rfl
 |ref i=>
  obtain⟨a,ha,rfl⟩:=ha;refine .onB λ o e1=>?_
  induction o with
  |list xs=>
   refine .onI λ hs=>?_
   obtain⟨cs,n,h1,h2⟩:=R.list e1 ha;exact λ _=>wpAny_truthy_list h1.isList (by rw[gw h2];exact yq hs) (Cx.ret0 R (Hg h2))
  |tup xs=>
   refine .onI λ hs=>?_
   obtain⟨cs,n,h1,h2⟩:=R.tup e1 ha;exact λ _=>truthy_tuple ⟨_,h1,rfl,_,rfl⟩ (by rw[gw h2];exact yq hs) (Cx.ret0 R (Hg h2))
  |_=>exact .of_bad
 |_=>exact .of_bad
theorem zM{i:Int}{n j:Nat}(h:za i n=some j): -(2 ^ 63:Int)<=i/\i < 2 ^ 63/\seqIndex? i n=some j:=by
 unfold za at h;split at h
 ·first|exact ns h|exact qW h|cases h
 ·exact⟨by lia,by lia,h⟩
set_option tactic.hygienic true in
theorem Jt{prog:cI}{w:eZ}{A:bJ}{E:ao->aD->Prop}{s:aD}{l:aR}{items:Array ao}{i:Int}{t:Tok}{j:Nat}{x:ao}{Q:ao->aD->Prop}
  (hl:s.heap.IsList l items) (h0: -(2 ^ 63:Int)<=i) (h1:i < 2 ^ 63) (hj:seqIndex? i items.size=some j) (hx:items[j]?=some x) (h:Q x s):bI (model prog w) A (getItem (.ref l) (.int i t)) Q E s:=by
 unfold seqIndex? at hj;by_cases hi:i < 0
 ·rw[if_pos hi]at hj;dsimp only at hj;split at hj
  ·rename_i q
   simp only[bh,decide_eq_true_eq]at q;cases hj;exact wpAny_getItem_list_neg hl hi (by lia) h0 hx h
  ·first|exact ns hj|exact qW hj|cases hj
 ·rw[if_neg hi]at hj;dsimp only at hj;split at hj
  ·first|exact ns hj|exact qW hj|cases hj
   exact wpAny_getItem_list hl (by lia) h1 hx h
  ·first|exact ns hj|exact qW hj|cases hj
theorem X4(R:C.Rep ρ s.heap Y){a b:V}{ca cb:ao}(ha:VR ρ a ca)(hb:VR ρ b cb):C.Snd A (getItem ca cb) ρ (jm (iz a b Y) Y) VR s:=by
 induction a with
 |ref l=>
  obtain⟨a,ha,rfl⟩:=ha;refine .onB λ o e1=>?_
  induction o with
  |list xs=>
   refine .onB λ k e=>.onI λ _=>.onB λ j hj=>.onS λ v hx=>?_
   obtain⟨u,rfl⟩:=nY hb e;obtain⟨cs,n,h1,h2⟩:=R.list e1 ha;obtain⟨q0,q1,q2⟩:=zM hj;obtain⟨c,hc,hv⟩:=h2.get hx;rw[cV]at hc;exact λ _=>Jt h1.isList q0 q1 (by rw[gw h2];exact q2) hc (Cx.ret0 R hv)
  |tup xs=>
   refine .onB λ k e=>.onI λ _=>.onB λ j hj=>.onS λ v hx=>?_
   obtain⟨u,rfl⟩:=nY hb e;obtain⟨cs,n,h1,h2⟩:=R.tup e1 ha;obtain⟨q0,q1,q2⟩:=zM hj;obtain⟨c,hc,hv⟩:=h2.get hx;rw[cV]at hc;exact λ _=>PyProof.Rows.getItem_tuple ⟨_,h1,rfl,_,rfl⟩ q0 q1 (by rw[gw h2];exact q2) hc (Cx.ret0 R hv)
  |dict kvs ep=>
   refine .onB λ x e=>.onS λ v hr=>?_
   obtain⟨u,rfl⟩:=tO hb e;obtain⟨ckvs,h1,h2⟩:=R.dict e1 ha;have:=qb h2 x;rw[hr]at this;obtain⟨c,hc,hv⟩:=this;exact λ _=>wpAny_getItem_of (strKind_is _ _ _ _) h1.dictOf.mapOf hc (Cx.ret0 R hv)
  |_=>exact .of_bad
 |str x=>
  obtain⟨t,rfl⟩:=ha;refine .onB λ k e=>.onI λ _=>.onB λ j hj=>.onM λ c hc=>?_
  obtain⟨u,rfl⟩:=nY hb e;obtain⟨q0,q1,q2⟩:=zM hj;refine λ _=>P.getItem_str ?_ (by rw[q2];exact hc) (Cx.ret0 R ⟨_,rfl⟩)
  lia
 |_=>exact .of_bad
end
section
variable {C:Cx}{A:bJ}{ρ:List aR}{s:aD}{Y:St}
section
variable {prog:cI}{w:eZ}{E:ao->aD->Prop}{s:aD}{A:bJ}
theorem TQ{d:aR}{kvs:List (Str×ao)}{ep:Nat}{x:Str}{t:Tok}{v:ao}{Q:Unit->aD->Prop}(hm:s.heap.DictAt (strKind prog w) d kvs ep)
  (hQ:∀h',h'.DictAt (strKind prog w) d (stored kvs x v) (if kvs.any (λ kv=>kv.1=x)then ep else ep+1)->dO d s.heap h'->Q () {s with heap:=h',toks:=s.toks+1})
  (hsz:kvs.length<=ig):
  bI (model prog w) A (dictSet d (.str x t) v) Q E s:=by
 obtain⟨o,es,ho,hc,hd,hk,hp,hn⟩:=hm;have hkey:(strKind prog w).is x (.str x t)=true:=strKind_is _ _ _ _;have hes:es.size<=ig:=by
  have e1:=hp.length;have e2:es.toList.length=es.size:=by simp
  lia
 refine cJ ?_;refine ak ((strKind prog w).pyHash hkey ?_);refine cJ ?_;refine ak (wpAny_dictFind_of (s:={s with toks:=s.toks+1}) hkey ho hd hk ?_);have hidx:(es.findIdx? λ e=>(strKind prog w).is x e.key)=kvs.findIdx? λ kv=>decide (kv.1=x):=by
  rw[<-hp.findIdx x];obtain⟨l⟩:=es;simp
 induction hi:es.findIdx? λ e=>(strKind prog w).is x e.key with
 |some i=>
  have ha:=any_of_findIdx_some (hidx▸hi);refine ak (lz (ak (wpAny_updateDict (s:={s with toks:=s.toks+1}) ho hd (wpAny_point (hQ _ ⟨_,_,b8 _ ho (Obj.isFreed_of_dict (Obj.data_mapDict hd _)),
   hc.mapDict _,?_,hk.modify i v,?_,?_⟩ (cB ..))))))
  ·rw[Obj.data_mapDict hd,if_pos ha]
  ·rw[stored,if_pos ha];have:=hp.modify hn (by clear hd hk hp hes;rw[<-hi];obtain⟨l⟩:=es;simp:(es.toList.findIdx? λ e=>(strKind prog w).is x e.key)=some i) v;simpa using this
  ·rw[stored,if_pos ha,keys_map_store];exact hn
 |none=>
  have hnot:x∉kvs.map (·.1):=not_mem_of_findIdx_none (hidx▸hi);have hany:¬ (kvs.any λ kv=>decide (kv.1=x))=true:=by
   rw[vg];rintro⟨kv,hkv,he⟩;exact hnot (dD.mpr ⟨kv,hkv,of_decide_eq_true he⟩)
  refine ak (lz (wpAny_updateDictKeys (hz:=hes) (s:={s with toks:=s.toks+1}) ho hd (hQ _ ⟨_,_,b8 _ ho (Obj.isFreed_of_dict (Obj.data_mapDictKeys hd _)),
   hc.mapDictKeys _,?_,hk.push hkey v,?_,?_⟩ (cB ..))))
  ·rw[Obj.data_mapDictKeys hd,if_neg hany]
  ·rw[stored,if_neg hany];have:=hp.append hkey ((strKind prog w).hash x) v;simpa using this
  ·rw[stored,if_neg hany,aP,cN];refine⟨hn,by simp,?_⟩;intro a ha b hb;rw[cA,gO,aJ]at hb;clear hd hk hp hes hidx hi;subst hb;exact λ e=>hnot (e▸ha)
theorem TV{d:aR}{kvs:List (Str×ao)}{ep:Nat}{x:Str}{t:Tok}{v:ao}{Q:Unit->aD->Prop}(hm:s.heap.DictAt (strKind prog w) d kvs ep)
  (hQ:∀h',h'.DictAt (strKind prog w) d (stored kvs x v) (if kvs.any (λ kv=>kv.1=x)then ep else ep+1)->dO d s.heap h'->Q () {s with heap:=h',toks:=s.toks+1})
  (hsz:kvs.length<=ig):
  bI (model prog w) A (setItem (.ref d) (.str x t) v) Q E s:=by
 have hT:=hm.dictOf.typeIs;refine cJ ?_;refine ak (wpAny_sequenceKey hT (by decide) ?_);refine ak (gA (name:=Str.ofString "__setitem__") hT slot_dict_setitem
  (d7 slot_dict_setitem hT entry_dict_setitem ?_ (args_dict_setitem _ _ _)))
 refine ak (wpAny_notOrdered_dict hT ?_);show bI _ _ (dictSet d (.str x t) v >>= _) _ _ s;exact ak (TQ hm (λ h' hm' hs'=>aB ⟨.none,rfl,aB (hQ h' hm' hs')⟩) hsz)
theorem TX{d:aR}{kvs:List (Str×ao)}{ep:Nat}{x:Str}{t:Tok}{Q:Option DictEntry->aD->Prop}(hm:s.heap.DictAt (strKind prog w) d kvs ep)(hin:(valueAt kvs x).isSome=true)
  (hQ:∀e h',h'.DictAt (strKind prog w) d (without kvs x) (ep+1)->dO d s.heap h'->Q (some e) {s with heap:=h',toks:=s.toks+1})
  (hsz:kvs.length<=ig):
  bI (model prog w) A (Builtin.Dict.takeOut d (.str x t)) Q E s:=by
 obtain⟨o,es,ho,hc,hd,hk,hp,hn⟩:=hm;have hkey:(strKind prog w).is x (.str x t)=true:=strKind_is _ _ _ _;have hes:es.size<=ig:=by
  have e1:=hp.length;have e2:es.toList.length=es.size:=by simp
  lia
 refine ak ((strKind prog w).pyHash hkey ?_);refine ak (wpAny_dictFind_of (s:={s with toks:=s.toks+1}) hkey ho hd hk ?_);induction hi:es.findIdx? λ e=>(strKind prog w).is x e.key with
 |none=>
  rw[<-hp.find x]at hin;have:(es.toList.find? λ e=>(strKind prog w).is x e.key)=none:=by
   rw[List.find?_eq_none];intro e he;have:=Array.findIdx?_eq_none_iff.mp hi e (lu.mp he);simpa using this
  rw[this]at hin;contradiction
 |some i=>
  have hl:(es.toList.findIdx? λ e=>(strKind prog w).is x e.key)=some i:=by rw[<-hi];obtain⟨l⟩:=es;simp
  obtain⟨e,he,hek,hev⟩:=hp.at hl;refine ak (wpAny_dictEntries (s:={s with toks:=s.toks+1}) ho hd ?_);rw[(by clear hd hk hp hes hi;rw[<-he];obtain⟨l⟩:=es;simp:es[i]?=some e)];refine ak (wpAny_updateDictKeys (hz:=hes) (s:={s with toks:=s.toks+1}) ho hd (aB (hQ e _ ⟨_,_,b8 _ ho (Obj.isFreed_of_dict (Obj.data_mapDictKeys hd _)),
   hc.mapDictKeys _,Obj.data_mapDictKeys hd _,hk.erase _,?_,nodup_without hn x⟩ (cB ..))))
  have:=hp.erase hn hl;simpa using this
end
set_option tactic.hygienic true in
theorem Hh{kvs:List (Str×V)}{ckvs:List (Str×ao)}(h:cX (Kc ρ) kvs ckvs){x:Str}{v:V}{c:ao}(hv:VR ρ v c):
  cX (Kc ρ) (uw kvs x v) (stored ckvs x c)/\(ckvs.any λ kv=>decide (kv.1=x))=kvs.any λ p=>p.1==x:=by
 have e:(ckvs.any λ kv=>decide (kv.1=x))=kvs.any λ p=>p.1==x:=by
  induction h with
  |nil=>rfl
  |@cons p q kvs ckvs h1 h2 ih=>simp only[p6,ih,h1.1];rfl
 refine⟨?_,e⟩;unfold uw stored;rw[e];split
 ·rename_i q
  clear q e;induction h with
  |nil=>exact .nil
  |@cons p q kvs ckvs h1 h2 ih=>
   simp only[cA];refine .cons ?_ ih;rw[h1.1];by_cases hq:q.1=x
   ·simp only[hq,beq_self_eq_true];exact⟨rfl,hv⟩
   ·have:(q.1==x)=false:=by simpa using hq
    simp only[this,hq];exact h1
 ·exact h.append (.cons ⟨rfl,hv⟩ .nil)
theorem Qy{kvs:List (Str×V)}{ckvs:List (Str×ao)}(h:cX (Kc ρ) kvs ckvs)(x:Str):cX (Kc ρ) (kvs.filter λ p=>!(p.1==x)) (without ckvs x):=by
 unfold without;induction h with
 |nil=>exact .nil
 |@cons p q kvs ckvs h1 h2 ih=>
  simp only[gB,h1.1];by_cases hq:q.1=x
  ·simp only[hq,beq_self_eq_true,ne_eq,if_false];exact ih
  ·have:(q.1==x)=false:=by simpa using hq
   simp only[this,hq,ne_eq,if_true];exact .cons h1 ih
theorem DictAt.or{kvs:List (Str×V)}{ckvs:List (Str×ao)}{ep:Nat}{h:cG}{d:aR}(hd:h.DictAt (strKind C.prog C.w) d ckvs ep)(hr:cX (Kc ρ) kvs ckvs):
  ∃co,h.get? d=some co/\OR C.prog C.w ρ (.dict kvs ep) co:=by
 obtain⟨o,es,ho,⟨c1,c2,c3⟩,hdd,hk,hp,hn⟩:=hd;refine⟨o,ho,es,ckvs,?_,hk,hp,hn,hr⟩;clear ho;obtain⟨cls,dict,data,slots⟩:=o;subst c1;subst c2;subst c3;subst hdd;rfl
theorem Cx.Rep.upd(R:C.Rep ρ s.heap Y){i:Nat}{a:aR}{o:O}{co:Obj}{h':cG}(hi:k0<=i)(ha:ρ[i]?=some a)(hs:dO a s.heap h')(hc:h'.get? a=some co)(ho:OR C.prog C.w ρ o co):
  C.Rep ρ h' (Y.upd i o):=Mine.Rep.upd R hi ha hs hc ho
theorem lF{kvs:List (Str×V)}{ckvs:List (Str×ao)}(h:cX (Kc ρ) kvs ckvs):ckvs.length=kvs.length:=h.length.symm
theorem tB{α:Type}{t:Sem α}{i:Nat}{o:O}{v:V}{rel:List aR->V->α->Prop}(h:k0<=i->C.Snd A t ρ (.ok v (Y.upd i o)) rel s):C.Snd A t ρ (Y.mut i o v) rel s:=by
 unfold St.mut;split
 ·exact h (by assumption)
 ·exact .of_bad
theorem Nj(R:C.Rep ρ s.heap Y){a i v:V}{ca ci cv:ao}(ha:VR ρ a ca)(hi:VR ρ i ci)(hv:VR ρ v cv):C.Snd A (setItem ca ci cv) ρ (p7 a i v Y) rB s:=by
 refine .onS λ l e1=>.onS λ x e2=>.onS λ p e3=>.grd λ hs=>tB λ hk=>λ _=>?_
 obtain⟨a',ha',rfl⟩:=vD ha e1;obtain⟨u,rfl⟩:=tO hi e2;obtain⟨ckvs,h1,h2⟩:=R.dict (oZ e3) ha';obtain⟨q1,q2⟩:=Hh h2 hv;refine TV h1 (λ h' hm' hs'=>?_) (by rw[lF h2];exact gJ hs);rw[q2]at hm';obtain⟨co,x,y⟩:=DictAt.or hm' q1;exact Cx.ret0 (R.upd hk ha' hs' x y) trivial
theorem Nk{prog:cI}{w:eZ}{E:ao->aD->Prop}{d:aR}{kvs:List (Str×ao)}{ep:Nat}{x:Str}{t:Tok}{Q:Unit->aD->Prop}(hm:s.heap.DictAt (strKind prog w) d kvs ep)(hin:(valueAt kvs x).isSome=true)
  (hQ:∀h',h'.DictAt (strKind prog w) d (without kvs x) (ep+1)->dO d s.heap h'->Q () {s with heap:=h',toks:=s.toks+1})
  (hsz:kvs.length<=ig):bI (model prog w) A (delItem (.ref d) (.str x t)) Q E s:=by
 have hT:=hm.dictOf.typeIs;refine wpAny_delItem_slot hT (by decide) F.slot_dict_delitem (d7 F.slot_dict_delitem hT F.entry_dict_delitem ?_ (F.args_dict_delitem_2 _ _));refine ak ?_;refine ak (wpAny_notOrdered_dict hT ?_);refine aB ?_;show bI _ _ (Builtin.Dict.takeOut d (.str x t) >>= _) _ _ s;exact ak (TX hm hin (λ e h' hm' hs'=>ak (qj (aB ⟨.none,rfl,hQ h' hm' hs'⟩))) hsz)
theorem Np(R:C.Rep ρ s.heap Y){a i:V}{ca ci:ao}(ha:VR ρ a ca)(hi:VR ρ i ci):C.Snd A (delItem ca ci) ρ (Ab a i Y) rB s:=by
 refine .onS λ l e1=>.onS λ x e2=>.onS λ p e3=>.grd λ hs=>tB λ hk=>λ _=>?_
 obtain⟨a',ha',rfl⟩:=vD ha e1;obtain⟨u,rfl⟩:=tO hi e2;obtain⟨ckvs,h1,h2⟩:=R.dict (oZ e3) ha';rw[bh]at hs;refine Nk h1 (by rw[tQ h2];exact hs.2) (λ h' hm' hs'=>?_) (by rw[lF h2];exact gJ hs.1);obtain⟨co,x,y⟩:=DictAt.or hm' (Qy h2 _);exact Cx.ret0 (R.upd hk ha' hs' x y) trivial
end
section
variable {C:Cx}{A:bJ}{ρ:List aR}{s:aD}{Y:St}
theorem aj8{α β:Type}{R:α->β->Prop}{a:α}{bs:List β}(h:cX R [a] bs):∃b,bs=[b]/\R a b:=by
 cases h with
 |cons h1 h2=>cases h2;exact⟨_,rfl,h1⟩
theorem Qz{ys:List Str}{cs:List ao}(h:cX SR ys cs):∃l:List (Str×Tok),cs=strValues l/\l.map (·.1)=ys:=by
 induction h with
 |nil=>exact⟨[],rfl,rfl⟩
 |cons h1 _ ih=>
  clear a_1;obtain⟨l,rfl,rfl⟩:=ih;obtain⟨t,rfl⟩:=h1;exact⟨(_,t)::l,rfl,rfl⟩
theorem Nq{ys:List Str}(h1:small ys.length=true)(h2:small (dI ys)=true):JoinOk aU ys=true:=by
 have h1:=jC h1;have h2:=jC h2;unfold JoinOk;rw[StrLaws.joinTotal];have e:aU.length=1:=rfl;rw[e];unfold dI at h2;have:¬ ((ys.map Str.length).sum+ys.length*1 > ig):=by rw[sizeLine_eq];lia
 unfold Builtin.Str.tooLong;rw[decide_eq_false this];rfl
theorem X5{h:cG}{a:aR}{cs:Array ao}{n:Nat}(e:h.get? a=some {cls:=.type "list",dict:=none,data:=.seq cs n,slots:=#[]}):h.IsList a cs:=⟨_,e,rfl,n,rfl⟩
theorem Am(ρ:List aR):∀(xs:List Str) (t:Tok),cX (VR ρ) (xs.map .str) (strsFrom t xs)
 |[],_=>.nil
 |_::r,t=>.cons ⟨t,rfl⟩ (Am ρ r (t+1))
theorem TY{prog:cI}{w:eZ}{E:ao->aD->Prop}{x:Str}{t u:Tok}{Q:ao->aD->Prop}(hx:small x.length=true)
  (h:∀(cs:List ao) tk,(∀ρ,cX (VR ρ) ((dJ x aU).map .str) cs)->Q (.ref s.heap.objs.size) {s with heap:=s.heap.push {cls:=.type "list",data:=.seq cs.toArray},toks:=tk}):
  bI (model prog w) A (call (.builtin "str.split") [.str x t,.str aU u]) Q E s:=by
 have hx':=jC hx;have hl:=split_le x aU;unfold dJ at h hl;by_cases h1:(decide (x.length < aU.length)||decide (Builtin.Str.strKind x < Builtin.Str.strKind aU))=true
 ·rw[h1]at h;exact call_meets F.slot_str_split (typeIs_str _ _ _) F.entry_str_split (F.args_str_split_2 _ _) (meets_str_split_cannot_occur x aU t u h1) (h [.str x t] s.toks λ ρ=>.cons ⟨t,rfl⟩ .nil)
 ·have h1':=kI.mpr h1;by_cases h2:(Builtin.Str.occurrences x aU 0 x.length (x.length+1)).isEmpty=true
  ·rw[h1',h2]at h;exact call_meets F.slot_str_split (typeIs_str _ _ _) F.entry_str_split (F.args_str_split_2 _ _) (meets_str_split_not_found x aU t u h1' rfl h2) (h [.str x t] s.toks λ ρ=>.cons ⟨t,rfl⟩ .nil)
  ·have h2':=kI.mpr h2;simp only[h1',h2',if_false]at h hl;exact call_meets F.slot_str_split (typeIs_str _ _ _) F.entry_str_split (F.args_str_split_2 _ _) (meets_str_split_sep x aU t u h1' rfl h2' (gJ hx) (by rw[sizeLine_eq];lia))
    (h _ _ λ ρ=>Am ρ _ _)
noncomputable def X6(m:Me):String:=match m with
 |.join=>"str.join"|.split=>"str.split"|.startswith=>"str.startswith"|.endswith=>"str.endswith"|.rfind=>"str.rfind"|.rstrip=>"str.rstrip"|.lstrip=>"str.lstrip"
 |.append=>"list.append"|.pop=>"list.pop"|.clear=>"list.clear"|.get=>"dict.get"|.values=>"dict.values"|.add=>"set.add"
theorem X7{h:cG}{a:aR}{S:Str->Bool}{n:Nat}{xs:List Str}(hS:h.SetOf (strKind C.prog C.w) a S n)(e:S=λ k=>xs.contains k)(en:n=xs.length):∃co,h.get? a=some co/\OR C.prog C.w ρ (.set xs) co:=by
 subst e en;exact hS.objOf
set_option tactic.hygienic true in
theorem pq{t:Sem ao}{x y:Str}{k:aC V}(h:y=aU->small x.length=true->C.Snd A t ρ k VR s):C.Snd A t ρ (xG x y k) VR s:=by
 unfold xG;split
 ·rename_i hs
  rw[bh,beq_iff_eq]at hs;exact h hs.1 hs.2
 ·exact .of_bad
theorem abh(R:C.Rep ρ s.heap Y){m:Me}{x y:Str}{t u:Tok}:C.Snd A (call (.builtin (X6 m)) [.str x t,.str y u]) ρ (ajQ m x y Y) VR s:=by
 induction m
 case split=>
  refine pq λ e hs=>?_
  subst e;exact λ _=>TY hs λ cs tk hc=>Cx.ret1 (R.new1 rfl ⟨_,_,rfl,hc _⟩) (tM R.lenEq)
 case startswith=>exact pq λ _ _=>λ _=>SC.startswith (Cx.ret0 R rfl)
 case endswith=>exact pq λ _ _=>λ _=>SC.endswith (Cx.ret0 R rfl)
 case rfind=>exact pq λ _ _=>λ _=>SC.rfind (Cx.ret0 R ⟨_,rfl⟩)
 case rstrip=>exact pq λ _ hs=>λ _=>SC.rstripChars (λ t' k=>Cx.ret0 R ⟨_,rfl⟩) (gJ hs)
 case lstrip=>exact pq λ _ hs=>λ _=>SC.lstripChars (λ t' k=>Cx.ret0 R ⟨_,rfl⟩) (gJ hs)
 all_goals exact .of_bad
theorem X8(R:C.Rep ρ s.heap Y){sep:Str}{t:Tok}{v:V}{c:ao}(hv:VR ρ v c):C.Snd A (call (.builtin "str.join") [.str sep t,c]) ρ (aaP sep v Y) VR s:=by
 refine .onS λ l e=>.onS λ xs e1=>.onS λ ss e2=>.grd λ hs=>?_
 obtain⟨a,ha,rfl⟩:=vD hv e;obtain⟨hs,hs2⟩:=eE.mp hs;obtain⟨hs0,hs1⟩:=eE.mp hs;cases beq_iff_eq.mp hs0;obtain⟨cs,n,h1,h2⟩:=R.list (iZ e1) ha;obtain⟨l,e3,e4⟩:=Qz (rD e2 h2);exact λ _=>SC.join (by rw[<-e3];exact X5 h1) e4 (Nq hs1 hs2) λ t' k=>Cx.ret0 R ⟨t',by rw[<-StrLaws.glued_eq_join];rfl⟩
theorem Yb(R:C.Rep ρ s.heap Y){m:Me}{l:Nat}{a:aR}(ha:ρ[l]?=some a):C.Snd A (call (.builtin (X6 m)) [.ref a]) ρ (agC m l Y) VR s:=by
 refine .onS λ o e1=>?_
 induction o with
 |list xs=>
  refine .grd λ hs=>?_
  obtain⟨cs,n,h1,h2⟩:=R.list e1 ha;have hz:cs.size<=ig:=by rw[gw h2];exact gJ hs
  induction m
  case pop=>
   refine .onS λ v e2=>tB λ hk=>λ _=>?_
   rw[lR]at e2;obtain⟨c,hc,hv⟩:=h2.get e2;rw[cV,<-gw h2]at hc;refine call_meets F.slot_list_pop ⟨_,h1,rfl⟩ F.entry_list_pop (F.args_list_pop_1 _) (MeetsSeq.list_pop_last a cs n c hc hz) ⟨h1,?_⟩;refine Cx.ret0 (R.upd hk ha (cB ..) (IsL.update h1 _) ⟨_,_,rfl,?_⟩) hv;have:(cs.eraseIdxIfInBounds (cs.size - 1)).toList=cs.toList.dropLast:=by
    clear h1 h2 hz hc;obtain⟨l⟩:=cs;simp[List.eraseIdx_length_sub_one]
   rw[this];exact h2.dropLast
  case clear=>
   refine tB λ hk=>λ _=>?_
   refine call_meets F.slot_list_clear ⟨_,h1,rfl⟩ F.entry_list_clear (F.args_list_clear_1 _) (AutoSeq1.list_clear_list_0 a cs n hz) ⟨h1,?_⟩;exact Cx.ret0 (R.upd hk ha (cB ..) (IsL.update h1 _) ⟨_,_,rfl,.nil⟩) rfl
  all_goals exact .of_bad
 |dict kvs ep=>
  refine .grd λ hm=>?_
  cases of_decide_eq_true hm;obtain⟨ckvs,h1,h2⟩:=R.dict e1 ha;refine λ _=>call_meetsIn F.slot_dict_values h1.dictOf.typeIs F.entry_dict_values (F.args_dict_values_1 _) (meets_dict_values (strKind C.prog C.w) a (Mine.Rep.sys R _ (bG ha))) ⟨⟨_,h1.dictOf⟩,?_⟩
  exact Cx.ret1 (R.new1 rfl ⟨a,bK ha,rfl,rfl,rfl⟩) (tM R.lenEq)
 |_=>exact .of_bad
theorem Kg(xs:List Str)(x:Str):(λ k'=>xs.contains k'||decide (k'=x))=(λ k=>(if xs.contains x then xs else xs++[x]).contains k)/\(if xs.contains x=true then xs.length else xs.length+1)=(if xs.contains x then xs else xs++[x]).length:=by
 induction hc:xs.contains x
 ·refine⟨funext λ k=>?_,by rw[if_neg cY,if_neg cY,aq];rfl⟩;simp
 ·refine⟨funext λ k=>?_,rfl⟩;by_cases h:k=x
  ·subst h;simpa using hc
  ·simp[h]
theorem Yc(R:C.Rep ρ s.heap Y){m:Me}{l:Nat}{a:aR}(ha:ρ[l]?=some a){v:V}{c:ao}(hv:VR ρ v c):C.Snd A (call (.builtin (X6 m)) [.ref a,c]) ρ (agD m l v Y) VR s:=by
 refine .onS λ o e1=>?_
 induction o with
 |list xs=>
  refine .grd λ hs=>?_
  replace hs:=of_decide_eq_true hs;obtain⟨cs,n,h1,h2⟩:=R.list e1 ha;obtain⟨rfl,hs⟩:=hs;refine tB λ hk=>λ _=>?_
  refine call_meets F.slot_list_append ⟨_,h1,rfl⟩ F.entry_list_append (F.args_list_append_2 _ _) (list_append a cs n _ (by rw[gw h2];exact gJ hs)) ⟨h1,?_⟩;exact Cx.ret0 (R.upd hk ha (cB ..) (IsL.update h1 _) ⟨_,_,rfl,by rw[Array.toList_push];exact h2.append (.cons hv .nil)⟩) rfl
 |dict kvs ep=>
  refine .onS λ x e=>.grd λ hm=>?_
  cases of_decide_eq_true hm;obtain⟨u,rfl⟩:=tO hv e;obtain⟨ckvs,h1,h2⟩:=R.dict e1 ha;refine λ _=>call_meetsIn F.slot_dict_get h1.dictOf.typeIs F.entry_dict_get (F.args_dict_get_2 _ _) (meets_dict_get (strKind C.prog C.w) a (strKind_is _ _ _ _) (Mine.Rep.sys R _ (bG ha))) ⟨_,h1.dictOf.mapOf,Cx.ret0 R ?_⟩
  have:=qb h2 x;induction e:kvs.lookup x with
  |none=>rw[e]at this;rw[this];rfl
  |some v=>rw[e]at this;obtain⟨c,h3,h4⟩:=this;rw[h3];exact h4
 |set xs=>
  refine .onS λ x e=>.grd λ hs=>?_
  obtain⟨u,rfl⟩:=tO hv e;replace hs:=of_decide_eq_true hs;obtain⟨rfl,hs⟩:=hs;obtain⟨co,hco,hf⟩:=R.objs _ _ _ e1 ha;refine tB λ hk=>λ _=>?_
  refine call_set_add (strKind_is _ _ _ _) rfl (hf.setOf hco (by unfold scanBound;lia)) (by unfold scanBound;lia) λ h' hs' hS'=>?_
  obtain⟨co',x',y'⟩:=X7 (C:=C) (ρ:=ρ) hS' (Kg xs x).1 (Kg xs x).2;exact Cx.ret0 (R.upd hk ha hs' x' y') rfl
 |_=>exact .of_bad
theorem Kh(R:C.Rep ρ s.heap Y){m:Me}{ov:V}{vs:List V}{cov:ao}{cvs:List ao}(hov:VR ρ ov cov)(hvs:cX (VR ρ) vs cvs):
  C.Snd A (call (.builtin (X6 m)) (cov::cvs)) ρ (gH m ov vs Y) VR s:=by
 cases vs with
 |nil=>
  rw[hvs.nil_inv];induction ov with
  |ref l=>obtain⟨a,ha,rfl⟩:=hov;exact Yb R ha
  |_=>exact .of_bad
 |cons v r=>induction r with
  |cons _ _=>exact .of_bad
  |nil=>
   obtain⟨c,_,e,hv,q⟩:=hvs.cons_inv;rw[e,q.nil_inv];clear hvs;clear e;induction ov with
   |ref l=>obtain⟨a,ha,rfl⟩:=hov;exact Yc R ha hv
   |str x=>
    obtain⟨t,rfl⟩:=hov;induction v with
    |str y=>obtain⟨u,rfl⟩:=hv;exact abh R
    |ref l=>
     show C.Snd A _ ρ (if m=.join then aaP x (.ref l) Y else .bad) VR s;by_cases hm:m=.join
     ·subst hm;exact X8 R hv
     ·rw[if_neg hm];exact .of_bad
    |_=>exact .of_bad
   |_=>exact .of_bad
end
noncomputable def uz:aR:=290
structure abi(prog:cI)(w:eZ)(hb:cG):Prop where
 glob:∃mg mb,hb.Ns cC mg/\hb.Ns iG mb/\∀x v,aaM x=some v->∃c,(mg x=some c\/mg x=none/\mb x=some c)/\∀ρ:List aR,ρ[0]?=some uz->VR ρ v c
inductive aj9(hb:cG)(a:Nat)(f:Fn):Prop
 |mk (o:Obj) (fd:FuncData) (ho:hb.get? a=some o) (hd:o.data=.func fd) (hp:fd.params=f.params) (hbo:fd.body=.stmts f.body) (hs:fd.scope=f.scope) (hg:fd.globals=cC) (hc:fd.closure=[]) (hbu:fd.builtins=iG) (hcr:hb.CodeRec fd.code fd.qualname)
  (dl:Option (Array ao)) (hdl:∀(M:Model),Looks M hb (seqItems? fd.defaults) dl) (hd1:f.params.defaults.length=1->dl=some #[.none])
structure Yd(hb:cG)(a:Nat)(f:Fn):Prop where
 obj:aj9 hb a f
 co:f.scope.isCoroutine=false
 gen:f.scope.isGenerator=false
 kind:f.scope.kind=.function
 names:(f.params.args.map (·.arg)).Nodup
 locals:∀x,(x∈f.params.args.map (·.arg)\/∃r,f.params.vararg=some r/\x=r.arg)->f.scope.names.lookup x=some .local
 cells:(fC f.scope).Nodup
 kinds:∀x∈fC f.scope,f.scope.names.lookup x=some .cell
noncomputable def Gm(K:Frag)(x:Str):Bool:=findIn K (.ref 137) x==some none&&takerIn K 137 x==some none
noncomputable def T5(K:Frag)(p:Str×Nat):Bool:=findIn K (.ref 137) p.1==some (some (.ref p.2))&&isFn K (.ref p.2)
noncomputable def yu:List (Str×Nat×Nat):=[("node",41,0),("npredecessors",42,1),("successors",43,2)]
noncomputable def Nr(K:Frag)(q:Str×Nat×Nat):Bool:=findIn K (.ref 40) q.1==some (some (.ref q.2.1))&&specialIn K (.ref q.2.1) "__get__"==some (some (.builtin "member_descriptor.__get__"))&&takesIn K (.ref q.2.1)==some true&&slotIn K q.2.1 40==some q.2.2&&
 takerIn K 40 q.1==some (some (.ref q.2.1))&&typeIn K (.ref q.2.1)==some (.type "member_descriptor")
noncomputable def Kl(K:Frag)(C:aR)(fI:Nat):Bool:=plainGet K C ""&&isClsIn K C&&plainOver K C&&findIn K (.ref C) "__setattr__"==some (some (.builtin "object.__setattr__"))&&makesIn K C&&findIn K (.ref C) "__init__"==some (some (.ref fI))&&isFn K (.ref fI)&&keepIn K (.ref C)
noncomputable def Ye(K:Frag):Bool:=Kl K 137 73&&Kl K 40 36&&hasDictIn K 137&&fP.all (Gm K)&&yj.all (T5 K)&&yu.all (Nr K)&&G4.all (λ p=>keepIn K (.ref p.1))&&Gj.all (λ p=>keepIn K (.ref p.1))
structure T6(prog:cI)(w:eZ)(hb:cG):Prop where
 names:∀x:Gi,∃mg mb,hb.Ns cC mg/\hb.Ns iG mb/\(mg (jl x)=some (vC x)\/mg (jl x)=none/\mb (jl x)=some (vC x))
 tuple:∀x:Gi,Looks (model prog w) hb (isInstance (vC x) (.type "tuple")) false
 isExc:∀x:Gi,Looks (model prog w) hb (isExcClass (vC x)) true
 sub:∀x:Gi,Looks (model prog w) hb (isSubtype (vC x) (vC x)) true
 cyc:∃nm q N bs hdct sn sub ab col dd k0 k1 k2 k3 k5 mN,hb.get? 55=some (excClassObj nm q 55 N bs [.type "ValueError",.type "Exception",.type "BaseException",.type "object"] hdct sn sub ab col dd k0 k1 k2 k3 k5 "ValueError.__new__")/\hb.Ns N mN/\mN "__init__"=none
 ko:∃K:Frag,K.In hb/\Ye K=true
 fns:∀a f,rA a=some f->Yd hb a f
 lim:hb.NoLimit
inductive WfH(prog:cI)(w:eZ)(h₀:cG):Prop
 |mk (hb:cG) (F:abi prog w hb) (kb:∀b o,hb.get? b=some o->h₀.get? b=some o) (F2:T6 prog w hb)
noncomputable def Wf(C:Cx):Prop:=WfH C.prog C.w C.h₀
structure dm(C:Cx)(A:bJ)(ρ:List aR)(en:En)(env:Env):Prop where
 scope:env.scope=en.scope
 kind:env.scope.kind=.function
 locals:env.locals=C.L
 globals:env.globals=cC
 builtins:env.builtins=iG
 cells:∀x k,en.cells.lookup x=some k->∃a,env.cells.lookup x=some a/\ρ[k]?=some a
 free:en.free=true->A.handled=none
 units:AUn A
 room:A.units+10*C.room+100 < cLine/\A.depth+C.room < gP
 files:ρ[0]?=some uz
 stat:k0<=ρ.length
 own:en.own=true->env.frame=some C.L/\A.frames=some (env::C.FS.map (·.1))/\∀p∈C.FS,p.1.frame=some p.1.locals
theorem dm.mono{C:Cx}{A:bJ}{ρ:List aR}{en:En}{env:Env}(h:dm C A ρ en env)(ρ':List aR):dm C A (ρ++ρ') en env:=
 ⟨h.scope,h.kind,h.locals,h.globals,h.builtins,λ x k e=>let ⟨a,b,c⟩:=h.cells x k e;⟨a,b,bK c⟩,h.free,h.units,h.room,bK h.files,by have:=h.stat;simp;exact dh _ (by assumption),h.own⟩
section
variable {C:Cx}{A:bJ}{ρ:List aR}{s:aD}{Y:St}{en:En}{env:Env}
theorem Cx.Rep.loc(R:C.Rep ρ s.heap Y):agK s.heap C.L ρ Y.loc:=Mine.Rep.loc R
theorem QB{l:List (Str×Option V)}{x:Str}{v:V}(h:cF l x=some v):l.lookup x=some (some v):=by
 unfold cF at h;induction e:l.lookup x with
 |none=>rw[e]at h;cases h
 |some o=>rw[e]at h;simp at h;rw[h]
theorem Km(W:Wf C)(EV:dm C A ρ en env)(R:C.Rep ρ s.heap Y)(x:Str):C.Snd A (loadName env x) ρ (Qj en x Y) VR s:=by
 unfold Qj;induction hk:en.scope.names.lookup x with
 |none=>exact .of_bad
 |some k=>
  have hk:=(λ k e=>by unfold Env.kindOf;rw[EV.scope];exact e:∀k,en.scope.names.lookup x=some k->env.kindOf x=some k) _ hk;induction k with
  |«local»=>
   refine .onS λ v hv=>?_
   obtain⟨m,h1,h2⟩:=R.loc;obtain⟨c,h3,h4⟩:=h2 x v (QB hv);exact λ _=>wpAny_loadName_local EV.kind hk (by rw[EV.locals];exact h1) h3 (Cx.ret0 R h4)
  |cell=>
   refine .onS λ k hc=>.onS λ v e=>?_
   obtain⟨a,ha,hr⟩:=EV.cells _ _ hc;obtain⟨co,h1,cv,h2,c,h3,h4⟩:=R.objs _ _ _ (uy (g:=λ v=>.cell (some v)) (λ _ _=>abd) e) hr;subst h3;exact λ _=>wpAny_loadName_cell EV.kind hk ha ⟨co,h1,h2⟩ (Cx.ret0 R h4)
  |globalImplicit=>
   refine .onS λ v hv=>?_
   obtain⟨hb,W,kb,_⟩:=W;obtain⟨mg,mb,g,b,hg⟩:=W.glob;obtain⟨c,h1,h2⟩:=hg x v hv;have h2:=h2 ρ EV.files;refine λ _=>uq λ G toG=>?_
   unfold loadName at toG;simp only[Env.blockKind,EV.kind,hk,ScopeKind.isAnnotationScope,aF,if_false]at toG;have kp:=λ b o e=>Mine.Rep.keep R b o (kb b o e)
   rcases h1 with h1|⟨h1,h1'⟩
   ·exact toG (loadGlobal_global (by rw[EV.globals];exact g.keeps kp) h1 (Cx.ret0 R h2))
   ·exact toG (loadGlobal_builtin (by rw[EV.globals];exact g.keeps kp) h1 (by rw[EV.builtins];exact b.keeps kp) h1' (Cx.ret0 R h2))
  |_=>exact .of_bad
theorem Ju(EV:dm C A ρ en env)(R:C.Rep ρ s.heap Y)(x:Str){v:V}{c:ao}(hv:VR ρ v c):C.Snd A (storeName env x c) ρ (gF en x v Y) rB s:=by
 unfold gF;induction hk:en.scope.names.lookup x with
 |none=>exact .of_bad
 |some k=>
  have hk:=(λ k e=>by unfold Env.kindOf;rw[EV.scope];exact e:∀k,en.scope.names.lookup x=some k->env.kindOf x=some k) _ hk;induction k with
  |«local»=>
   obtain⟨m,h1,h2⟩:=R.loc;refine λ _=>wpAny_storeName_local hk (by rw[EV.locals];exact h1) (λ h' hn hs=>?_) (by rw[EV.kind];rfl)
   rw[EV.locals]at hn hs;exact Cx.ret0 (Mine.Rep.setLoc R hn hs (h2.set hv)) trivial
  |cell=>
   refine .onS λ k hc=>.onS λ o e=>?_
   obtain⟨a,ha,hr⟩:=EV.cells _ _ hc;induction o with
   |cell v=>
    obtain⟨co,h1,cv,h2,h3⟩:=R.objs _ _ _ e hr;refine .grd λ hkk=>?_
    refine λ _=>wpAny_storeName_cell EV.kind hk ha ⟨co,h1,h2⟩ λ h' hv' hs=>?_
    obtain⟨o',ho',hd'⟩:=hv';exact Cx.ret0 (R.upd (of_decide_eq_true hkk) hr hs ho' ⟨_,hd',c,rfl,hv⟩) trivial
   |_=>exact .of_bad
  |_=>exact .of_bad
theorem jr(EV:dm C A ρ en env)(R:C.Rep ρ s.heap Y)(x:Str){v:V}{c:ao}(hv:VR ρ v c):C.Snd A (bindName env x c) ρ (gF en x v Y) rB s:=
 λ q=>wpAny_bindName (Ju EV R x hv q)
theorem T7(R:C.Rep ρ s.heap Y)(c:Const):C.Snd A (constValue env c) ρ (Tv c Y) VR s:=by
 unfold Tv;split
 ·exact λ _=>aB (Cx.ret0 R rfl)
 ·exact λ _=>aB (Cx.ret0 R rfl)
 ·exact λ _=>wpAny_mkInt (Cx.ret0 R ⟨_,rfl⟩)
 ·exact λ _ _ _ _=>Cx.ret0 (tk:=s.toks+1) R ⟨_,rfl⟩
 ·exact .of_bad
end
noncomputable def Ey(C:Cx)(f:ao)(h:cG):Prop:=∃k,(k=Keeper.frame\/k=Keeper.machine\/k=Keeper.boundFrame)/\Looks (model C.prog C.w) h (keeperOf f) k
noncomputable def xM:vA->ao
 |.user f=>.ref f
 |.bi m=>.builtin (X6 m)
structure Ops(C:Cx)(A:bJ)(en:En)(env:Env)(cl:Nat->List V->St->aC V):Prop where
 wf:Wf C
 attr:∀{ρ}{s:aD} {Y v c x},C.Rep ρ s.heap Y->VR ρ v c->C.Snd A (getAttr c x true) ρ (fu v x Y) VR s
 setAttr:∀{ρ}{s:aD} {Y v c x u d},C.Rep ρ s.heap Y->VR ρ v c->VR ρ u d->C.Snd A (setAttr c x d) ρ (dz v x u Y) rB s
 callee:∀{ρ}{s:aD} {Y v c x cal}(pl:Sem Bool),C.Rep ρ s.heap Y->VR ρ v c->pR v x Y=some cal->C.Snd A (getMethod c x pl) ρ (.ok () Y) (λ _ _ p=>p=(xM cal,[c])) s
 keep:∀{ρ}{s:aD} {Y f cf vs},C.Rep ρ s.heap Y->VR ρ f cf->GR cl en f vs Y≠.bad->Ey C cf s.heap
 call:∀{ρ}{s:aD} {Y f cf vs cvs},dm C A ρ en env->C.Rep ρ s.heap Y->VR ρ f cf->cX (VR ρ) vs cvs->C.Snd A (call cf cvs) ρ (GR cl en f vs Y) VR s
 keepU:∀{ρ}{s:aD} {Y f c vs},C.Rep ρ s.heap Y->CN cl en (.user f) c vs Y≠.bad->Ey C (.ref f) s.heap
 callU:∀{ρ}{s:aD} {Y f v c vs cvs},dm C A ρ en env->C.Rep ρ s.heap Y->VR ρ v c->cX (VR ρ) vs cvs->C.Snd A (PySem.call (.ref f) (c::cvs)) ρ (CN cl en (.user f) v vs Y) VR s
section
variable {C:Cx}{A:bJ}{ρ:List aR}{s:aD}{Y:St}{en:En}{env:Env}{cl:Nat->List V->St->aC V}{ev:Expr->En->St->aC V}{te:Expr->En->St->aC Bool}
noncomputable def Gn(C:Cx)(A:bJ)(en:En)(env:Env)(ev:Expr->En->St->aC V):Prop:=
 ∀(e:Expr) {ρ}{s:aD} {Y},dm C A ρ en env->C.Rep ρ s.heap Y->C.Snd A (eval e env) ρ (ev e en Y) VR s
noncomputable def TeS(C:Cx)(A:bJ)(en:En)(env:Env)(te:Expr->En->St->aC Bool):Prop:=
 ∀(e:Expr) {ρ}{s:aD} {Y},dm C A ρ en env->C.Rep ρ s.heap Y->C.Snd A (isTrue e env (eval e env)) ρ (te e en Y) aa8 s
theorem VR.app{ρ':List aR}{v:V}{c:ao}(h:VR ρ v c):VR (ρ++ρ') v c:=h.mono
theorem abj{vs:List V}{cvs:List ao}{ρ':List aR}(h:cX (VR ρ) vs cvs):cX (VR (ρ++ρ')) vs cvs:=h.mono λ _ _=>VR.mono
theorem Cx.Snd.bind'{α α' β β':Type}{t:Sem β}{f:β->Sem β'}{r:aC α}{rk:α->St->aC α'}{rel:List aR->α->β->Prop}{rel':List aR->α'->β'->Prop}(h:C.Snd A t ρ r rel s)
  (k:∀a Y' b h' tk ρ',C.Rep (ρ++ρ') h' Y'->rel (ρ++ρ') a b->C.Snd A (f b) (ρ++ρ') (rk a Y') rel' {s with heap:=h',toks:=tk}):
  C.Snd A (t >>= f) ρ (r.bind rk) rel' s:=h.bind λ a Y' b h' tk ρ' _=>k a Y' b h' tk ρ'
theorem jU(pos:Pos)(env:Env):∀{es:List Expr},zJ es=true->backTo pos (starEach es env)=es.map λ e=>(false,eval e env):=by
 intro es;induction es with
 |nil=>exact λ _=>rfl
 |cons e r ih=>
  intro h;rw[(by induction e using PySem.Expr.casesOn<;>first|rfl|contradiction:starEach (e::r) env=(false,eval e env)::starEach r env),cA,<-(ih (by induction e using PySem.Expr.casesOn<;>first|exact h|contradiction))];rfl
theorem T8(x:Sem ao)(rest:List (Bool×Sem ao)):spliced ((false,x)::rest)=(do let v <-x;let vs <-holding [v] (spliced rest);pure (v::vs)):=by
 rw[spliced];rfl
theorem zc{ev:Expr->En->St->aC V}{en:En}:∀{es:List Expr}{Y Y':St}{vs:List V},mJ ev es en Y=.ok vs Y'->vs.length=es.length:=by
 intro es;induction es with
 |nil=>intro Y Y' vs e;cases e;rfl
 |cons x r ih=>
  intro Y Y' vs e;dsimp only[mJ]at e;induction h1:ev x en Y with
  |bad=>rw[h1]at e;contradiction
  |exc _ _=>rw[h1]at e;contradiction
  |ok v σ₁=>
   simp only[h1,aC.bind_ok]at e;induction h2:mJ ev r en σ₁ with
   |bad=>rw[h2]at e;contradiction
   |exc _ _=>rw[h2]at e;contradiction
   |ok us σ₂=>
    rw[h2,aC.bind_ok]at e;simp only[aC.ok.injEq]at e;simp only[<-e.1,aZ,ih h2]
theorem CT(hev:Gn C A en env ev):∀(es:List Expr) {ρ}{s:aD} {Y},dm C A ρ en env->C.Rep ρ s.heap Y->
  C.Snd A (spliced (es.map λ e=>(false,eval e env))) ρ (mJ ev es en Y) (λ ρ vs cs=>cX (VR ρ) vs cs) s:=by
 intro es;induction es with
 |nil=>exact λ EV R _=>aB (Cx.ret0 R .nil)
 |cons e es ih=>
  intro ρ s Y EV R;show C.Snd A (spliced ((false,eval e env)::es.map λ e=>(false,eval e env))) ρ _ _ s;rw[T8];refine Cx.Snd.bind' (hev e EV R) λ v σ₁ c hH tk1 ρ1 RA hv=>?_
  refine Cx.Snd.bind' (Cx.Snd.holding (ih (EV.mono _) RA)) λ vs σ₂ cs hV tk2 ρ2 RC hvs=>?_
  exact λ _=>aB (Cx.ret0 RC (.cons hv.mono hvs))
theorem Ao{pos:Pos}{f:ao}{first:List ao}{es:List Expr}{rk:List V->St->aC V}(hst:zJ es=true)(hev:Gn C A en env ev)(EV:dm C A ρ en env)(R:C.Rep ρ s.heap Y)
  (hk:∀vs Y' h' tk ρ' cvs,C.Rep (ρ++ρ') h' Y'->cX (VR (ρ++ρ')) vs cvs->rk vs Y'≠.bad->Ey C f h'/\C.Snd A (PySem.call f (first++cvs)) (ρ++ρ') (rk vs Y') VR {s with heap:=h',toks:=tk}):
  C.Snd A (callWith pos f first (backTo pos (starEach es env)) (backToKw pos (keywordEach [] env))) ρ ((mJ ev es en Y).bind rk) VR s:=by
 rw[jU pos env hst];intro hb;have hplain:((es.map λ e=>(false,eval e env)).any (·.1)||([]:List (Option Str×Sem ao)).any (·.1.isNone))=false:=by
  simp
 have main:∀(r:aC (List V)),mJ ev es en Y=r->bI (model C.prog C.w) A (spliced (es.map λ e=>(false,eval e env)))
   (λ cvs sC=>Ey C f sC.heap/\bI (model C.prog C.w) A (PySem.call f (first++cvs)) (C.Ret ρ s ((mJ ev es en Y).bind rk) VR) (C.Exn ρ s ((mJ ev es en Y).bind rk)) sC)
   (C.Exn ρ s ((mJ ev es en Y).bind rk)) s:=by
  intro r hr;refine cO (CT hev es EV R (λ e=>hb (by rw[e];rfl))) ?_ ?_
  ·rintro cvs sC ⟨vs,σ₁,hH,tk1,ρ1,e1,rfl,RA,hvs⟩;rw[e1]at hb ⊢;obtain⟨k1,k2⟩:=hk vs σ₁ hH tk1 ρ1 cvs RA hvs hb;refine⟨k1,cO (k2 hb) ?_ ?_⟩
   ·rintro b' s' ⟨a',Y'',h'',tk',ρ'',e,rfl,R',x'⟩;exact⟨a',Y'',h'',tk',ρ1++ρ'',e,rfl,by rw[<-aj];exact R',by rw[<-aj];exact x'⟩
   ·rintro e s' ⟨x',Y'',h'',tk',ρ'',e1,rfl,e3⟩;exact⟨x',Y'',h'',tk',ρ1++ρ'',e1,rfl,by rw[<-aj];exact e3⟩
  ·rintro e s' ⟨x',Y'',h',tk,ρ',e1,e2,e3⟩;rw[e1];exact⟨x',Y'',h',tk,ρ',rfl,e2,e3⟩
 refine callWith_of (P:=Ey C f) hplain (λ h hP=>hP) ?_;clear hst hplain;induction es with
 |nil=>
  obtain⟨k1,k2⟩:=hk [] Y s.heap s.toks [] [] (by rw[aW];exact R) .nil hb;have k3:=k2 hb;rw[aW ρ]at k3;refine evalArgs_nil3 ⟨k1,?_⟩;exact k3
 |cons e r=>exact evalArgs_plain (main _ rfl)
theorem Yg(hev:Gn C A en env ev)(op:BoolOp)(pos:Pos):∀(es:List Expr) {ρ}{s:aD} {Y},dm C A ρ en env->C.Rep ρ s.heap Y->C.Snd A (boolOp pos op (evalEach es env)) ρ (aaT ev op es en Y) VR s:=by
 intro es;induction es with
 |nil=>exact λ EV R=>.of_bad
 |cons e r ih=>
  intro ρ s Y EV R;rcases r with _|⟨e2,r⟩
  ·exact hev e EV R
  refine Cx.Snd.bind' (hev e EV R) λ v σ₁ c hH tk1 ρ1 RA hv=>?_
  refine Cx.Snd.at ?_;refine Cx.Snd.bind' (Cx.Snd.holding (zL RA hv)) λ t σ₂ b hV tk2 ρ2 RC ht=>?_
  subst ht;have ih:=ih (s:={s with heap:=hV,toks:=tk2}) ((EV.mono _).mono _) RC;induction op<;>induction t<;>first|exact ih|exact λ _=>aB (Cx.ret0 RC hv.mono)
theorem abk(hte:TeS C A en env te)(op:BoolOp):∀(es:List Expr) {ρ}{s:aD} {Y},dm C A ρ en env->C.Rep ρ s.heap Y->C.Snd A (allTrue op es env) ρ (MJ te op es en Y) aa8 s:=by
 intro es;induction es with
 |nil=>exact λ EV R _=>aB (Cx.ret0 R rfl)
 |cons e r ih=>
  intro ρ s Y EV R;rw[arm_allTrue_cons];refine Cx.Snd.bind' (hte e EV R) λ t σ₂ b hV tk2 ρ2 RC ht=>?_
  subst ht;have ih:=ih (s:={s with heap:=hV,toks:=tk2}) (EV.mono _) RC;induction op<;>induction t<;>first|exact ih|exact λ _=>aB (Cx.ret0 RC rfl)
set_option tactic.hygienic true in
theorem Aq{o:Expr}(h:yp o=true)(attr:Str)(env:Env)(whole:Sem ao):attributeBase o attr env whole=whole:=by
 induction o using PySem.Expr.casesOn
 case Call f args kws p=>
  induction f using PySem.Expr.casesOn
  case Name y q=>
   rcases args with _|⟨a,r⟩
   ·rcases kws with _|⟨a,r⟩
    ·exact qW h
    ·rfl
   ·rfl
  all_goals rfl
 all_goals rfl
set_option tactic.hygienic true in
theorem FP(slice:Expr)(o i:ao):∃ops,subscripted slice false o i=operate ops (getItem o i):=by
 induction slice using PySem.Expr.casesOn
 case Slice l u st p=>induction st<;>exact⟨_,rfl⟩
 all_goals exact⟨_,rfl⟩
noncomputable def afi(s:aD)(o:ao):Prop:=∃T id,s.TypeIs o T/\typeLookup (.type T) "__getitem__"=pure (some (.builtin id))
theorem Hi{value slice:Expr}{o i:ao}{α:Type}{r:aC α}{rel:List aR->α->ao->Prop}(hT:r≠.bad->afi s o)(h:C.Snd A (getItem o i) ρ r rel s):C.Snd A (subscriptTail value slice o i) ρ r rel s:=by
 obtain⟨ops,hs⟩:=FP slice o i;intro hb;obtain⟨T,id,h1,h2⟩:=hT hb;exact tail_any h1 h2 (h hb) hs
end
section
variable {C:Cx}{A:bJ}{ρ:List aR}{s:aD}{Y:St}{en:En}{env:Env}{cl:Nat->List V->St->aC V}{ev:Expr->En->St->aC V}{te:Expr->En->St->aC Bool}
theorem Nt(R:C.Rep ρ s.heap Y){value slice:Expr}{a b:V}{ca cb:ao}(ha:VR ρ a ca)(hb:VR ρ b cb):C.Snd A (subscriptTail value slice ca cb) ρ (jm (iz a b Y) Y) VR s:=by
 refine Hi (λ q=>?_) (X4 R ha hb);induction a with
 |ref l=>
  obtain⟨x,hx,rfl⟩:=ha;induction e:Y.sto[l]? with
  |none=>exact absurd (show jm ((Y.sto[l]?).bind _) Y=.bad by rw[e];rfl) q
  |some o=>
   induction o with
   |list xs=>obtain⟨cs,n,h1,h2⟩:=R.list e hx;exact⟨"list",_,⟨_,h1,rfl⟩,list_getitem_lookup⟩
   |tup xs=>obtain⟨cs,n,h1,h2⟩:=R.tup e hx;exact⟨"tuple",_,⟨_,h1,rfl⟩,slot_tuple_getitem.lookup⟩
   |dict kvs ep=>obtain⟨ckvs,h1,h2⟩:=R.dict e hx;exact⟨"dict",_,h1.dictOf.typeIs,slot_dict_getitem.lookup⟩
   |_=>exact absurd (show jm ((Y.sto[l]?).bind _) Y=.bad by rw[e];rfl) q
 |str x=>obtain⟨t,rfl⟩:=ha;exact⟨"str",_,typeIs_str _ _ _,F.slot_str_getitem.lookup⟩
 |_=>exact absurd rfl q
inductive QC:Option Int->ao->Prop
 |none:QC none .none
 |int (i:Int) (t:Tok):QC (some i) (.int i t)
theorem Ez{v:V}{c:ao}{l:Option Int}(hv:VR ρ v c)(h:rz v=some l):QC l c:=by
 induction v with
 |none=>cases h;subst hv;exact .none
 |int i=>
  obtain⟨t,rfl⟩:=hv;by_cases q: -1000000<=i/\i<=1000000
  ·cases(if_pos q).symm.trans h;exact .int i t
  ·exact ns ((if_neg q).symm.trans h)
 |_=>exact ns h
theorem QC.part{l:Option Int}{c:ao}(h:QC l c):IsPart c l:=by
 induction h with
 |none=>exact .none
 |int i t=>exact .int _ _
theorem tC(h₀:cG):KeptH λ h'=>∀b o,h₀.get? b=some o->h'.get? b=some o:=λ _ ob x b o e=>bB ob (x b o e)
theorem Cx.Rep.junk(R:C.Rep ρ s.heap Y){h':cG}(hk:∀b o,s.heap.get? b=some o->h'.get? b=some o):C.Rep ρ h' Y:=Mine.Rep.junk R hk
theorem Ar{M:Model}{E:ao->aD->Prop}{o i:ao}{Q:ao->aD->Prop}(h:ItemOn M A E o i Q s):bI M A (getItem o i) Q E s:=let ⟨_,_,_,_,q⟩:=h;q
theorem Yh(R:C.Rep ρ s.heap Y){value:Expr}{lo up:Option Expr}{p:Pos}{a l u:V}{ca cl' cu:ao}{li ui:Option Int}(ha:VR ρ a ca)(hl:VR ρ l cl')(hu:VR ρ u cu)(el:rz l=some li)(eu:rz u=some ui):
  C.Snd A (subscriptTail value (.Slice lo up none p) ca (.ref s.heap.objs.size)) ρ (MF a li ui Y) VR {s with heap:=s.heap.push {cls:=.type "slice",data:=.fields #[cl',cu,.none]}}:=by
 have pl:=Ez hl el;have pu:=Ez hu eu;clear hl hu el eu;induction a with
 |str x=>
  obtain⟨t,rfl⟩:=ha;refine .grd λ hs=>Hi (λ _=>⟨"str",_,typeIs_str _ _ _,F.slot_str_getitem.lookup⟩) λ _=>?_
  have sV:∀{li ui cl' cu h' t' k},(∀b o,s.heap.get? b=some o->h'.get? b=some o)->
    C.Ret ρ {s with heap:=s.heap.push {cls:=.type "slice",data:=.fields #[cl',cu,.none]}} (.ok (.str (dF x li ui)) Y) VR (.str (dF x li ui) t') {s with heap:=h',toks:=k}:=
   λ hk=>Cx.ret0 (R.junk hk) ⟨_,rfl⟩
  have hz:=gJ hs;clear R;induction pl with
  |none=>
   induction pu with
   |none=>exact Ar (SBH.sliceItem_nn (tC s.heap) (λ _ _ e=>e) (λ _ _ _=>sV) hz)
   |int j uj=>exact Ar (SBH.sliceItem_ns (tC s.heap) (λ _ _ e=>e) (λ _ _ _=>sV) hz)
  |int i ui=>
   induction pu with
   |none=>exact Ar (SBH.sliceItem_sn (tC s.heap) (λ _ _ e=>e) (λ _ _ _=>sV) hz)
   |int j uj=>exact Ar (SBH.sliceItem_ss (tC s.heap) (λ _ _ e=>e) (λ _ _ _=>sV) hz)
 |ref n=>
  obtain⟨x,hx,rfl⟩:=ha;refine .onS λ xs e5=>.grd λ hs=>?_
  have R':=R.junk (h':=s.heap.push {cls:=.type "slice",data:=.fields #[cl',cu,.none]}) λ _ _ e=>bB _ e
  obtain⟨cs,m,h1,h2⟩:=R'.list (s:={s with heap:=s.heap.push {cls:=.type "slice",data:=.fields #[cl',cu,.none]}}) (iZ e5) hx;refine Hi (λ _=>⟨"list",_,⟨_,h1,rfl⟩,list_getitem_lookup⟩) ?_;refine yr R' rfl (o:=.list (cut li ui xs)) ⟨_,_,rfl,?_⟩ λ q=>wpAny_getItem_list_slice h1.isList (Heap.IsSliceOf.new ..) pl.part pu.part .none (by simp) (q s.toks) (by rw[gw h2];exact gJ hs)
  rw[kms_pick_eq];unfold kms_pick cut;rw[h2.length];exact((h2.drop _).take _).mono λ _ _=>VR.mono
 |_=>exact .of_bad
end
section
variable {C:Cx}{A:bJ}{ρ:List aR}{s:aD}{Y:St}{en:En}{env:Env}{cl:Nat->List V->St->aC V}{ev:Expr->En->St->aC V}{te:Expr->En->St->aC Bool}
noncomputable def agO(C:Cx)(A:bJ)(en:En)(env:Env)(cl:Nat->List V->St->aC V)(ev:Expr->En->St->aC V)(te:Expr->En->St->aC Bool):Prop:=
 ∀(elt:Expr) (gens:List Comprehension) (scope:Scope) (p:Pos) {ρ}{s:aD} {Y},dm C A ρ en env->C.Rep ρ s.heap Y->
  C.Snd A (eval (.ListComp elt gens scope p) env) ρ (Es true ev te elt gens scope en Y) VR s/\
  C.Snd A (eval (.SetComp elt gens scope p) env) ρ (Es false ev te elt gens scope en Y) VR s
set_option tactic.hygienic true in
theorem Ko(O:Ops C A en env cl)(hev:Gn C A en env ev)(EV:dm C A ρ en env)(R:C.Rep ρ s.heap Y){f:Expr}{args:List Expr}{pos:Pos}
  (he:eval (.Call f args [] pos) env=(do callWith pos (<-eval f env) [] (backTo pos (starEach args env)) (backToKw pos (keywordEach [] env)))):
  C.Snd A (eval (.Call f args [] pos) env) ρ (WM cl ev f args en Y) VR s:=by
 unfold WM;split
 ·rename_i hst
  simp only[he];refine Cx.Snd.bind' (hev f EV R) λ fv σ₁ c hH tk1 ρ1 RA hv=>?_
  refine Ao hst hev (EV.mono _) RA λ vs σ₂ hV tk2 ρ2 cvs RC hvs hb=>⟨?_,?_⟩
  ·exact O.keep (s:={s with heap:=hV,toks:=tk2}) RC hv.mono hb
  ·exact O.call (s:={s with heap:=hV,toks:=tk2}) ((EV.mono _).mono _) RC hv.mono hvs
 ·exact .of_bad
theorem QD(hev:Gn C A en env ev)(EV:dm C A ρ en env)(R:C.Rep ρ s.heap Y)(o:Option Expr):C.Snd A (valueOrNone (evalOpt o env)) ρ (Tw ev o en Y) VR s:=by
 induction o with
 |none=>exact λ _=>aB (Cx.ret0 R rfl)
 |some e=>exact hev e EV R
theorem abl(m:Me)(h:cG):Ey C (.builtin (X6 m)) h:=⟨.machine,.inr (.inl rfl),Looks.now⟩
theorem Yi(R:C.Rep ρ s.heap Y):C.Snd A (dictDisplay []) ρ (Y.new (.dict [] 0)) VR s:=by
 refine yr R (o:=.dict [] 0) (co:={cls:=.type "dict",data:=.dict #[]}) rfl ⟨#[],[],rfl,λ _ h=>by simp at h,.nil,.nil,.nil⟩ λ q=>?_
 have:=q s.toks;show bI _ A newDict _ _ s;exact ak (wpAny_alloc (aB this))
theorem WY{α β:Type}{l r:Expr}{k:V->V->St->aC α}{rel:List aR->α->β->Prop}{t1:Sem ao}{t2:ao->Sem ao}{t3:ao->ao->Sem β}(EV:dm C A ρ en env)
  (h1:C.Snd A t1 ρ (ev l en Y) VR s) (h2:∀c ρ (s:aD) Y,dm C A ρ en env->C.Rep ρ s.heap Y->C.Snd A (t2 c) ρ (ev r en Y) VR s)
  (h3:∀{u v:V}{Y':St}{cu cv:ao}{ρ':List aR}{s':aD},dm C A (ρ++ρ') en env->C.Rep (ρ++ρ') s'.heap Y'->VR (ρ++ρ') u cu->VR (ρ++ρ') v cv->C.Snd A (t3 cu cv) (ρ++ρ') (k u v Y') rel s'):
  C.Snd A (t1 >>= λ a=>t2 a >>= λ b=>t3 a b) ρ (GZ ev l r en k Y) rel s:=by
 refine Cx.Snd.bind' h1 λ v σ₁ c hH tk1 ρ1 RA hv=>?_
 refine Cx.Snd.bind' (h2 c _ {s with heap:=hH,toks:=tk1} _ (EV.mono _) RA) λ u σ₂ d hV tk2 ρ2 RC hu=>?_
 have:=h3 (ρ':=ρ1++ρ2) (s':={s with heap:=hV,toks:=tk2}) (EV.mono _) (by rw[<-aj];exact RC) (by rw[<-aj];exact hv.mono) (by rw[<-aj];exact hu);rw[aj];exact this
theorem rE(hev:Gn C A en env ev)(EV:dm C A ρ en env)(R:C.Rep ρ s.heap Y){l r:Expr}{α β:Type}{k:V->V->St->aC α}{rel:List aR->α->β->Prop}{t3:ao->ao->Sem β}
  (h3:∀{u v:V}{Y':St}{cu cv:ao}{ρ':List aR}{s':aD},dm C A (ρ++ρ') en env->C.Rep (ρ++ρ') s'.heap Y'->VR (ρ++ρ') u cu->VR (ρ++ρ') v cv->C.Snd A (t3 cu cv) (ρ++ρ') (k u v Y') rel s'):
  C.Snd A (eval l env >>= λ a=>PySem.holding [a] (eval r env) >>= λ b=>t3 a b) ρ (GZ ev l r en k Y) rel s:=
 WY EV (hev l EV R) (λ _ _ _ _ EV R=>Cx.Snd.holding (hev r EV R)) h3
theorem Kp{op:CmpOp}{r:Expr}(hr:wJ r=false):markedEach [op] [r] (evalEach [r] env)=[eval r env]:=by
 show [markedBehindIn op r (eval r env)]=_;dsimp only[markedBehindIn];have:behindInMarks op r=false:=by induction r using PySem.Expr.casesOn<;>first|rfl|contradiction
 rw[this]
set_option tactic.hygienic true in
theorem QF{α β:Type}{l:Expr}{ops:List CmpOp}{rs:List Expr}{k:Bool->St->aC α}{rel:List aR->α->β->Prop}{t:Sem β}
  (h:∀op r,ops=[op]->rs=[r]->wJ r=false->C.Snd A t ρ (GZ ev l r en (λ a b Y=>(bA (zG op a b Y) Y).bind k) Y) rel s):C.Snd A t ρ (afe ev l ops rs en k Y) rel s:=by
 unfold afe;refine .onS λ op e1=>.onS λ r e2=>?_
 cases mj e1;cases mj e2;induction hr:wJ r with
 |true=>exact .of_bad
 |false=>exact h _ _ rfl rfl hr
set_option tactic.hygienic true in
theorem Kq(hev:Gn C A en env ev)(EV:dm C A ρ en env)(R:C.Rep ρ s.heap Y){es:List Expr}{pos:Pos}{mk:List V->O}{t:List ao->Sem ao}
  (h:∀{ρ}{s:aD}{Y:St}{vs:List V}{cs:List ao},C.Rep ρ s.heap Y->cX (VR ρ) vs cs->cs.length<=ig->C.Snd A (t cs) ρ (Y.new (mk vs)) VR s):C.Snd A (spliced (backTo pos (starEach es env)) >>= t) ρ (WQ ev es en mk Y) VR s:=by
 unfold WQ;split
 ·rename_i hs
  rw[bh]at hs;rw[jU _ _ hs.1];have hz:=gJ hs.2;refine Cx.Snd.bind (CT hev _ EV R) λ vs σ₁ cs hH tk1 ρ1 e1 RA hv=>?_
  exact h (s:={s with heap:=hH,toks:=tk1}) RA hv (by rw[<-hv.length,(zc e1)];exact hz)
 ·exact .of_bad
set_option tactic.hygienic true in
theorem Yj(O:Ops C A en env cl)(hev:Gn C A en env ev)(EV:dm C A ρ en env)(R:C.Rep ρ s.heap Y){o:Expr}{name:Str}{apos pos:Pos}{args:List Expr}:
  C.Snd A (eval (.Call (.Attribute o name apos) args [] pos) env) ρ (aaW cl ev o name apos pos args en Y) VR s:=by
 unfold aaW;split
 ·rename_i hs
  simp only[bh]at hs;obtain⟨⟨⟨hs1,hs2⟩,hs3⟩,hs4⟩:=hs;simp only[arm_eval_Call,Aq hs2];refine Cx.Snd.bind' (hev _ EV R) λ ov σ₁ c hH tk1 ρ1 RA hv=>?_
  refine Cx.Snd.at ?_;split
  ·rename_i cal hcal
   dsimp only[methodCall];have hf:methodCallForm (args.length+([]:List Keyword).length) (backTo pos (starEach args env)) (backToKw pos (keywordEach [] env))=true:=by
    rw[jU _ _ hs1];unfold methodCallForm;simp[hs3,backToKw,keywordEach]
   rw[hf];refine Cx.Snd.bind' (r:=.ok () σ₁) (rk:=λ _ Y=>(mJ ev args en Y).bind λ vs Y=>CN cl en cal ov vs Y) (Cx.Snd.holding (O.callee _ RA hv hcal)) λ _ σ₂ fp hV tk2 ρ2 RC hfp=>?_
   clear hcal;subst hfp;have hp:methodCallPos true o env apos pos=pure pos:=by
    unfold methodCallPos;simp[hs4]
   simp only[hp];refine Ao hs1 hev (((EV.mono _).mono _)) RC λ vs Y3 hW tk3 ρ3 cvs RE hvs hb=>?_
   induction cal with
   |user f=>exact⟨O.keepU (s:={s with heap:=hW,toks:=tk3}) RE hb,O.callU (s:={s with heap:=hW,toks:=tk3}) (((EV.mono _).mono _).mono _) RE hv.mono.mono hvs⟩
   |bi m=>exact⟨abl m _,Kh (s:={s with heap:=hW,toks:=tk3}) RE hv.mono.mono hvs⟩
  ·exact .of_bad
 ·exact .of_bad
theorem Yk(O:Ops C A en env cl)(hev:Gn C A en env ev)(EV:dm C A ρ en env)(R:C.Rep ρ s.heap Y){f:Expr}{args:List Expr}{pos:Pos}:
  C.Snd A (eval (.Call f args [] pos) env) ρ (aaX cl ev f args pos en Y) VR s:=by
 unfold aaX;have k:=qK f;generalize view f=w at k ⊢;induction w with
 |attr o a p=>cases k;exact Yj O hev EV R
 |name x=>obtain⟨p,rfl⟩:=k;exact Ko O hev EV R rfl
 |sub o i=>obtain⟨p,rfl⟩:=k;exact Ko O hev EV R rfl
 |_=>exact .of_bad
set_option tactic.hygienic true in
theorem T9(hev:Gn C A en env ev)(EV:dm C A ρ en env)(R:C.Rep ρ s.heap Y){o:Expr}{lo up st:Option Expr}{p pos:Pos}:
  C.Snd A (eval (.Subscript o (.Slice lo up st p) pos) env) ρ (aaY ev o lo up st en Y) VR s:=by
 induction st with
 |some _=>exact .of_bad
 |none=>
 show C.Snd A _ _ ((ev o en Y).bind λ ov Y=>(Tw ev lo en Y).bind λ l Y=>(Tw ev up en Y).bind λ h Y=>onS (rz l) λ l=>onS (rz h) λ h=>MF ov l h Y) _ _;rw[arm_eval_Subscript];refine Cx.Snd.bind' (hev _ EV R) λ v σ₁ c hH tk1 ρ1 RA hv=>?_
 refine Cx.Snd.unhold ?_;rw[arm_eval_Slice];simp only[bind_assoc];refine Cx.Snd.bind' (QD hev (EV.mono _) RA lo) λ l σ₂ cl' hV tk2 ρ2 RC hl=>?_
 refine Cx.Snd.bind' (Cx.Snd.holding (QD hev ((EV.mono _).mono _) RC up)) λ u Y3 cu hW tk3 ρ3 RE hu=>?_
 refine Cx.Snd.unhold ?_;have hn:valueOrNone (evalOpt none env)=pure .none:=rfl;rw[hn,pure_bind];refine .onS λ li e1=>.onS λ ui e2 hb=>?_
 refine ak ?_;unfold newFields;refine fQ ?_;exact ak (mz (Cx.same (Yh (s:={s with heap:=hW,toks:=tk3}) (value:=o) (lo:=lo) (up:=up) (p:=p) RE hv.mono.mono hl.mono hu e1 e2 hb)))
theorem abm(hev:Gn C A en env ev)(EV:dm C A ρ en env)(R:C.Rep ρ s.heap Y){o i:Expr}{pos:Pos}:
  C.Snd A (eval (.Subscript o i pos) env) ρ (ahF ev o i en Y) VR s:=by
 have main:C.Snd A (eval (.Subscript o i pos) env) ρ (GZ ev o i en (λ ov iv Y=>jm (iz ov iv Y) Y) Y) VR s:=by
  rw[arm_eval_Subscript];exact rE hev EV R λ _ R hv hu=>Cx.Snd.at (Nt R hv hu)
 unfold ahF;have k:=qK i;generalize view i=w at k ⊢;induction w with
 |slice lo up st=>obtain⟨p,rfl⟩:=k;exact T9 hev EV R
 |_=>exact main
theorem afj(R:C.Rep ρ s.heap Y){op:UnaryOp}{v:V}{c:ao}(hv:VR ρ v c):C.Snd A (PySem.unaryOp op c) ρ (WN op v Y) VR s:=by
 induction op
 case Not=>
  show C.Snd A (PySem.holding [c] (truthy c >>= λ t=>pure (.bool (!t)))) _ _ VR _;refine Cx.Snd.holding (Cx.Snd.bind' (zL R hv) λ t σ₂ b hV tk2 ρ2 RC ht=>?_);subst ht;exact λ _=>aB (Cx.ret0 RC rfl)
 case USub=>
  unfold WN;dsimp only;split
  ·obtain⟨t,rfl⟩:=hv;exact λ _=>P.neg_int (Cx.ret0 R ⟨_,rfl⟩)
  ·exact .of_bad
 all_goals exact .of_bad
set_option tactic.hygienic true in
theorem Yl(O:Ops C A en env cl)(hev:Gn C A en env ev)(hte:TeS C A en env te)(hcomp:agO C A en env cl ev te):Gn C A en env (aaZ cl ev te):=by
 intro e ρ s Y EV R;induction e using PySem.Expr.casesOn
 case Constant=>exact T7 R _
 case Name id pos=>
  show C.Snd A _ _ (if id==("__debug__":Str)then .bad else Qj en id Y) _ _;split
  ·exact .of_bad
  ·rename_i hd
   refine Cx.Snd.at ?_;rw[if_neg hd];exact Km O.wf EV R id
 case BoolOp=>exact Yg hev _ _ _ EV R
 case NamedExpr t v p=>
  show C.Snd A _ _ (match nU t with
   |some x=>(ev v en Y).bind λ a Y=>(gF en x a Y).bind λ _ Y=>.ok a Y
   |none=>.bad) _ _
  split
  ·rename_i x hx
   obtain⟨q,rfl⟩:=oW hx;refine Cx.Snd.bind' (hev _ EV R) λ v σ₁ c hH tk1 ρ1 RA hv=>?_
   refine Cx.Snd.bind' (rel:=rB) (Cx.Snd.holding ?_) λ _ σ₂ _ hV tk2 ρ2 RC _=>λ _=>aB (Cx.ret0 RC hv.mono)
   exact Cx.Snd.at (jr (EV.mono _) RA _ hv)
  ·exact .of_bad
 case BinOp l op r p=>
  exact rE hev EV R λ _ R hv hu=>Cx.Snd.at (Cx.Snd.operate (abf R hv hu))
 case UnaryOp op x p=>
  refine Cx.Snd.bind' (hev _ EV R) λ v σ₁ c hH tk1 ρ1 RA hv=>?_
  refine Cx.Snd.at (Cx.Snd.holding ?_);exact afj (s:={s with heap:=hH,toks:=tk1}) RA hv
 case IfExp t b o p=>
  refine Cx.Snd.bind' (hte _ EV R) λ v σ₁ c hH tk1 ρ1 RA hv=>?_
  subst hv;split
  ·exact hev _ (EV.mono _) RA
  ·exact hev _ (EV.mono _) RA
 case Dict ks vs p=>
  show C.Snd A _ _ (if ks.isEmpty&&vs.isEmpty then Y.new (.dict [] 0)else .bad) _ _;split
  ·rename_i hs
   rw[bh,iW,iW]at hs;obtain⟨rfl,rfl⟩:=hs;exact Cx.Snd.at (Yi R)
  ·exact .of_bad
 case List es p=>
  exact Cx.Snd.at (Kq hev EV R λ R hv hz=>yr R (o:=.list _) rfl ⟨_,0,rfl,by exact hv.mono λ _ _=>VR.mono⟩ λ q=>wpAny_newList (q _) hz)
 case Tuple es c p=>
  exact Cx.Snd.at (Kq hev EV R λ R hv hz=>yr R (o:=.tup _) rfl ⟨_,0,rfl,by exact hv.mono λ _ _=>VR.mono⟩ λ q=>wpAny_newTuple (q _) hz)
 case ListComp elt gens scope p=>exact(hcomp elt gens scope p EV R).1
 case SetComp elt gens scope p=>exact(hcomp elt gens scope p EV R).2
 case Compare l ops rs p=>
  refine QF λ op r e1 e2 hr=>?_
  subst e1 e2;rw[arm_eval_Compare,Kp hr];refine rE hev EV R λ{v u σ₂ _ _ _ sA} EV R hv hu=>Cx.Snd.at (Cx.Snd.operate ?_)
  have:=Qx R EV.units (op:=op) hv hu;induction e:zG op v u σ₂ with
  |none=>exact .of_bad
  |some b=>rw[e]at this;exact λ q=>cO (this nofun) (λ _ _ ⟨a,Y',h',tk,ρ',e1,e2,e3,e4⟩=>by
    cases e1;exact⟨_,_,h',tk,ρ',rfl,e2,e3,e4⟩) λ _ _ ⟨x,Y',h',tk,ρ',e1,_,_⟩=>by contradiction
 case Call f args kws pos=>
  induction kws with
  |nil=>exact Yk O hev EV R
  |cons _ _=>exact .of_bad
 case JoinedStr es p=>
  show C.Snd A _ _ (match es with
   |[e]=>ev e en Y
   |_=>.bad) _ _
  split
  ·simp only[arm_eval_JoinedStr];exact hev _ EV R
  ·exact .of_bad
 case Attribute o a p=>
  show C.Snd A _ _ (if yp o then(ev o en Y).bind λ ov Y=>fu ov a Y else .bad) _ _;split
  ·rename_i hs
   simp only[arm_eval_Attribute,Aq hs];refine Cx.Snd.bind' (hev _ EV R) λ v σ₁ c hH tk1 ρ1 RA hv=>?_
   refine Cx.Snd.at (Cx.Snd.map (Cx.Snd.holding (O.attr RA hv)) λ u σ₂ d hV tk2 ρ2 _ RC hu=>?_);exact λ _=>ak (wpAny_letTemporaryGo (aB (Cx.ret0 RC hu)))
  ·exact .of_bad
 case Subscript=>exact abm hev EV R
 all_goals exact .of_bad
end
section
variable {C:Cx}{A:bJ}{ρ:List aR}{s:aD}{Y:St}{en:En}{env:Env}{cl:Nat->List V->St->aC V}{ev:Expr->En->St->aC V}{te:Expr->En->St->aC Bool}
theorem afk{α:Type}(r:aC α):(r.bind λ t Y=>.ok t Y)=r:=by induction r<;>rfl
theorem EY(hev:Gn C A en env ev)(EV:dm C A ρ en env)(R:C.Rep ρ s.heap Y){e:Expr}(he:isTrue e env (eval e env)=(do let v <-eval e env;standAt e.pos;PySem.holding [v] (truthy v))):
  C.Snd A (isTrue e env (eval e env)) ρ (TG ev e en Y) aa8 s:=by
 rw[he];refine Cx.Snd.bind' (hev _ EV R) λ v σ₁ c hH tk1 ρ1 RA hv=>?_
 exact Cx.Snd.at (Cx.Snd.holding (zL RA hv))
set_option tactic.hygienic true in
theorem Ym(hev:Gn C A en env ev)(hte:TeS C A en env te):TeS C A en env (aa0 ev te):=by
 intro e ρ s Y EV R;induction e using PySem.Expr.casesOn
 case UnaryOp op x p=>
  show C.Snd A _ _ (if op== .Not then(te x en Y).bind λ t Y=>.ok (!t) Y else TG ev (.UnaryOp op x p) en Y) _ _;split
  ·rename_i h
   induction op<;>first|cases h|skip
   refine Cx.Snd.bind' (hte _ EV R) λ v σ₁ c hH tk1 ρ1 RA hv=>?_
   subst hv;exact λ _=>aB (Cx.ret0 RA rfl)
  ·rename_i h
   refine EY hev EV R ?_;induction op<;>first|rfl|exact absurd rfl h
 case BoolOp op es p=>
  exact abk hte _ _ EV R
 case Compare l ops rs p=>
  refine QF λ op r e1 e2 hr=>?_
  subst e1 e2;rw[arm_isTrue_Compare,Kp hr];refine rE hev EV R λ EV R hv hu=>Cx.Snd.at ?_
  rw[afk];refine Cx.Snd.map (Cx.Snd.operate (Qx R EV.units hv hu)) λ b Y3 cE hW tk3 ρ3 _ RE hb=>?_
  subst hb;exact Cx.Snd.holding λ _=>tK (Cx.ret0 RE rfl)
 case IfExp=>exact .of_bad
 all_goals exact EY hev EV R rfl
end
set_option tactic.hygienic true in
noncomputable def vy(ρ:List aR):Fl->Flow->Prop
 |.next,f=>f=.next
 |.brk,f=>f=.brk
 |.cont,f=>f=.cont
 |.ret v,f=>∃c,f=.ret c/\VR ρ v c
theorem vy.mono{ρ ρ':List aR}{a:Fl}{f:Flow}(h:vy ρ a f):vy (ρ++ρ') a f:=by
 induction a<;>first|exact h|(obtain⟨c,h1,h2⟩:=h;exact⟨c,h1,h2.mono⟩)
namespace SI
theorem entry_iter:entryFor table "set.__iter__"=some Builtin.«frozenset.__iter__»:=entryFor_alias (id':="frozenset.__iter__") (by kernel_rfl) (by decide+kernel) (by decide+kernel) (by kernel_rfl)
theorem slot_next:Slot "set_iterator" "__next__" "set_iterator.__next__":=
 .of (owner:="set_iterator") (n:="__next__") (by rw[dZ];kernel_rfl) (by decide+kernel) (by decide+kernel) (by decide+kernel)
  (by first|exact .inl (by decide+kernel)|exact .inr (by decide+kernel)) (by rw[iC];kernel_rfl)
theorem entry_next:entryFor table "set_iterator.__next__"=some Builtin.«set_iterator.__next__»:=jH (by kernel_rfl)
theorem args_next(a:ao):argsOk "set_iterator.__next__" ⟨[a],[]⟩:=by unfold argsOk;kernel_rfl
end SI
noncomputable def tR(led b:Bool):SetTable:=(layNew (.fresh 0 0 led) #[] (hashInt (if b then 1 else 0)) (.bool b)).2.1
noncomputable def Nu(b:Bool):Array (Int×ao):=#[(hashInt (if b then 1 else 0),.bool b)]
theorem uD(led b:Bool):(tR led b).fits (Nu b).size=true:=by cases led<;>induction b<;>decide+kernel
theorem Kr(led b:Bool):(tR led b).plain=true:=by cases led<;>induction b<;>decide+kernel
theorem afl(led b:Bool):(tR led b).led=led:=by cases led<;>induction b<;>decide+kernel
noncomputable abbrev Nv(a:aR)(slot i:Nat):Obj:={cls:=.type "set_iterator",dict:=none,data:=.fields #[rawInt slot,rawInt i,.ref a,rawInt 1,rawInt 1],slots:=#[]}
section
variable {prog:cI}{w:eZ}{A:bJ}{E:ao->aD->Prop}{s:aD}
noncomputable abbrev Hj(led b:Bool):Obj:={cls:=.type "set",dict:=none,data:=.set (Nu b) 1 (tR led b),slots:=#[]}
theorem Yn{a:aR}{led b:Bool}(ha:s.heap.get? a=some (Hj led b)){Q:Bool->aD->Prop}(h:Q false s):bI (model prog w) A (setDrawn a) Q E s:=by
 refine ak (kJ ha rfl (uD led b) ?_);refine ak (ak (iY (aB ?_)));show bI _ _ (pure (!w.params.followText "set-order"&&(!(tR led b).plain&&decide ((Nu b).size > 1)))) _ _ _;simp only[Kr,bD,sI,oJ];exact aB h
theorem abn{a:aR}{led b:Bool}(ha:s.heap.get? a=some (Hj led b)){Q:ao->aD->Prop}(h:Q (.ref s.heap.objs.size) {s with heap:=s.heap.push (Nv a 0 0)}):bI (model prog w) A (pyIter (.ref a)) Q E s:=by
 have hT:s.TypeIs (.ref a) "set":=⟨_,ha,rfl⟩;refine wpAny_pyIter_slot hT PySem.F.slot_set_iter (d7 PySem.F.slot_set_iter hT SI.entry_iter ?_ (PySem.F.args_set_iter_1 _));refine ak (ak (aB (aB ?_)));refine ak (ak (wpAny_setEntries_of ha rfl (uD led b) (aB ?_)));refine ak (Yn ha ?_);refine ak (aB ?_);refine ak (wpAny_setEpoch_of ha rfl (uD led b) ?_);exact ak (fQ (aB ⟨_,rfl,"set_iterator",_,⟨_,bW _ rfl,rfl⟩,SI.slot_next.lookup,h⟩))
noncomputable def Yo(w:eZ)(b:Bool):Nat:=if w.params.followText "set-order" then 0 else((tR true b).place.getD 0 0)+1
theorem abo{α:Type}(f:Nat->Nat)(x:α):pickOrder f #[x]=#[x]:=by
 show(match [x][f 0 % 1]? with
  |some y=>pickOrder.go f 0 1 ([x].eraseIdx (f 0 % 1)) (#[].push y)
  |none=>#[])=_
 rw[Nat.mod_one];rfl
theorem abp{a:aR}{b:Bool}(k:Nat)(hk:k < 2)(ha:s.heap.get? a=some (Hj (!w.params.followText "set-order") b)){Q:Option (ao×Nat)->aD->Prop}
  (h:Q (if k=0 then some (.bool b,Yo w b)else none) s):bI (model prog w) A (setNext a (if k=0 then 0 else Yo w b) k 1) Q E s:=by
 unfold setNext;refine ak (kJ ha rfl (uD _ b) ?_);unfold setsByText;refine ak (ak (iY (aB ?_)));unfold Yo at*;induction q:w.params.followText "set-order" with
 |true=>
  rw[q]at h ha;show bI _ _ (if w.params.followText "set-order"=true then _ else _) _ _ _;rw[if_pos q,if_neg (show ¬ ((1:Nat) != 1)=true by decide)];unfold setWalk;refine ak (ak (kJ ha rfl (uD _ b) ?_));unfold setsByText;refine ak (ak (iY (aB ?_)));show bI _ _ (if w.params.followText "set-order"=true then _ else _) _ _ _;rw[if_pos q];refine ak (iY (aB (aB ?_)));have e:∀f:Nat->Nat,pickOrder f (Nu b)=Nu b:=λ f=>abo f _
  rw[e];rcases k with _|_|k
  ·exact h
  ·exact h
  ·assumption
 |false=>
  rw[q]at h ha;show bI _ _ (if w.params.followText "set-order"=true then _ else _) _ _ _;rw[if_neg (by rw[q];decide)];show bI _ _ (if(!(tR (!false) b).plain&&decide ((Nu b).size > 1))=true then _ else _) _ _ _;rw[Kr,bD,sI,if_neg cY];show bI _ _ ((if(!(tR (!false) b).led&&!(Nu b).isEmpty)=true then _ else pure ()) >>= _) _ _ _;rw[afl,Bool.not_not,sI,if_neg cY];refine ak (aB (aB ?_));rcases k with _|_|k
  ·have e:SetTable.below (tR true b).place 0=0:=by induction b<;>decide+kernel
   have e2:(tR true b).place[0]?=some ((tR true b).place.getD 0 0):=by induction b<;>decide+kernel
   show Q (match(Nu b)[SetTable.below (tR true b).place 0]?,(tR true b).place[SetTable.below (tR true b).place 0]? with|some (_,x),some j=>some (x,j+1)|_,_=>none) s;rw[e,e2];exact h
  ·have e:SetTable.below (tR true b).place ((tR true b).place.getD 0 0+1)=1:=by induction b<;>decide+kernel
   show Q (match(Nu b)[SetTable.below (tR true b).place ((tR true b).place.getD 0 0+1)]?,(tR true b).place[SetTable.below (tR true b).place ((tR true b).place.getD 0 0+1)]? with|some (_,x),some j=>some (x,j+1)|_,_=>none) s;rw[e];exact h
  ·lia
theorem QG{a it:aR}{b:Bool}(k:Nat)(hk:k < 2)(hh:A.handled=none)(ha:s.heap.get? a=some (Hj (!w.params.followText "set-order") b))(hi:s.heap.get? it=some (Nv a (if k=0 then 0 else Yo w b) k)){Q:Option ao->aD->Prop}
  (h:∀h',lA it s.heap h'->(k=0->h'.get? it=some (Nv a (Yo w b) 1))->Q (if k=0 then some (.bool b)else none) {s with heap:=h'}):bI (model prog w) A (pyNext (.ref it)) Q E s:=by
 have hT:s.TypeIs (.ref it) "set_iterator":=⟨_,hi,rfl⟩;refine ak (uh (gA (name:=Str.ofString "__next__") hT SI.slot_next (d7 SI.slot_next hT SI.entry_next ?_ (SI.args_next _))));refine ak (aB ?_);refine ak (wpAny_fieldsOf hi rfl ?_);refine ak (wpAny_setEntries_of ha rfl (uD _ b) ?_);refine ak (abp k hk ha ?_);rcases k with _|_|k
 ·rw[if_pos rfl];refine ak (lB hi rfl (by simp) ?_);have h1:=b8 (Obj.mapFields (·.setIfInBounds 0 (rawInt (Yo w b)))) hi rfl;refine ak (lB h1 rfl (by simp) ?_);refine aB ⟨_,rfl,aB (h _ ((cB ..).extBut.trans (cB ..).extBut) λ _=>?_)⟩;exact(b8 (Obj.mapFields (·.setIfInBounds 1 (rawInt (((0:Nat):Int)+1)))) h1 rfl)
 ·rw[if_neg (by decide)];refine ak (lB hi rfl (by simp) ?_);refine ak ?_;refine ak (m:=firstArgMember _ _) (nO (a:=Value.none) (by first|rfl|(simp only[firstArgMember];rfl)) ?_);refine fQ ?_ (by size_fits);refine ak (wpAny_handled ?_);rw[show A.in1.handled=none from hh];refine ak (aB (wpAny_throw ?_));refine ak (vh (T:="StopIteration") (b:=true) ⟨_,bW _ rfl,rfl⟩ isSubtype_stop ?_);exact aB (h _ (((cB ..).extBut.push _).push _) λ z=>by contradiction)
 ·lia
theorem Ua{a:aR}{b:Bool}{Q:List ao->aD->Prop}(hh:A.handled=none)(ha:s.heap.get? a=some (Hj (!w.params.followText "set-order") b))
  (h:∀h',(∀x o,s.heap.get? x=some o->h'.get? x=some o)->Q [.bool b] {s with heap:=h'}):bI (model prog w) A (unpackItems (.ref a) 1 none) Q E s:=by
 refine ak (ak (xg (⟨_,ha,rfl⟩) PySem.F.slot_set_iter.lookup ?_));refine aB ?_;refine ak (cJ (abn ha ?_));refine ak (cJ ?_);refine ak (QG (s:={s with heap:=s.heap.push (Nv a 0 0)}) (a:=a) 0 (by simp) hh (bB _ ha) (bW _ rfl) λ h2 k2 e2=>?_);refine ak (cJ (aB (aB ?_)));refine ak (cJ (QG (s:={s with heap:=h2}) (a:=a) 1 (by simp) hh (k2 a _ (lN (gM ha)) (bB _ ha)) (e2 rfl) λ h3 k3 _=>?_));exact aB (h h3 λ x o e=>k3 x o (lN (gM e)) (k2 x o (lN (gM e)) (bB _ e)))
end
section
variable {C:Cx}{A:bJ}{ρ:List aR}{s:aD}{Y:St}{en:En}{env:Env}{cl:Nat->List V->St->aC V}{n:Nat}{ex:Stmt->En->St->aC Fl}
noncomputable def ExS(C:Cx)(A:bJ)(en:En)(env:Env)(ex:Stmt->En->St->aC Fl):Prop:=
 ∀(t:Stmt) {ρ}{s:aD} {Y},dm C A ρ en env->C.Rep ρ s.heap Y->C.Snd A (exec t env) ρ (ex t en Y) vy s
set_option tactic.hygienic true in
theorem iV(hex:ExS C A en env ex):∀(ts:List Stmt) {ρ}{s:aD} {Y},dm C A ρ en env->C.Rep ρ s.heap Y->C.Snd A (execs ts env) ρ (bY ex ts en Y) vy s:=by
 intro ts;induction ts with
 |nil=>exact λ EV R _=>aB (Cx.ret0 R rfl)
 |cons t r ih=>
  intro ρ s Y EV R;refine Cx.Snd.bind' (hex t EV R) λ fl σ₁ f hH tk1 ρ1 RA hf=>?_
  induction fl with
  |next=>subst hf;exact(ih (s:={s with heap:=hH,toks:=tk1}) (EV.mono _) RA)
  |brk=>subst hf;exact λ _=>aB (Cx.ret0 RA rfl)
  |cont=>subst hf;exact λ _=>aB (Cx.ret0 RA rfl)
  |ret v=>obtain⟨c,rfl,hv⟩:=hf;exact λ _=>aB (Cx.ret0 RA ⟨c,rfl,hv⟩)
theorem CV{prog:cI}{w:eZ}{E:ao->aD->Prop}{a:aR}{b:Bool}{co:Obj}{Q:List ao->aD->Prop}(hh:A.handled=none)(hco:s.heap.get? a=some co)(hb:OR prog w ρ (.bset [b]) co)
  (h:∀h',(∀x o,s.heap.get? x=some o->h'.get? x=some o)->Q [.bool b] {s with heap:=h'}):bI (model prog w) A (unpackItems (.ref a) 1 none) Q E s:=by
 obtain⟨d,hd,rfl⟩:=hb;cases hd;exact Ua hh hco h
theorem rF{n:Str}{px:Pos}{u:V}{d:ao}(EV:dm C A ρ en env)(R:C.Rep ρ s.heap Y)(hv:VR ρ u d):C.Snd A (assign (.Name n px) env d) ρ (gF en n u Y) rB s:=by
 rw[arm_assign_Name];exact Cx.Snd.at (jr EV R _ hv)
theorem QH{es:List Expr}{xs:List Str}{k:Nat}{tp:Pos}(hx:pW es=some xs)(hA:A.handled=none)(EV:dm C A ρ en env)(R:C.Rep ρ s.heap Y){v:V}{c:ao}(hv:VR ρ v c):
  C.Snd A (assign (.Tuple es k tp) env c) ρ (WR xs v en Y) rB s:=by
 refine .onS λ i e=>.onS λ o e1=>?_
 obtain⟨a,ha,rfl⟩:=vD hv e;induction o with
 |tup vs=>
  refine .onS λ v q1=>.onS λ x q2=>?_
  obtain⟨x,y,z⟩:=x;rw[G5 q1]at e1;simp only[G5 q2]at hx;obtain⟨px,r,rfl,hx1⟩:=oX hx;obtain⟨py,r,rfl,hx2⟩:=oX hx1;clear hx1 hx;obtain⟨pz,r,rfl,hx3⟩:=oX hx2;obtain⟨cs,m,h1,h2⟩:=R.tup e1 ha;cases xK hx3;obtain⟨ca,cb,cc,ec,ha,hb,hc⟩:=h2.three;cases CQ ec;intro hbad;refine assign_Tuple_tuple hA ⟨_,h1,rfl,_,rfl⟩ rfl rfl λ h' hx=>?_
  have R':=R.junk (h':=h') λ b o e=>hx b o (lN (gM e)) e
  refine Cx.same ((?_:C.Snd A (assignInOrder [assign (.Name x px) env,assign (.Name y py) env,assign (.Name z pz) env] [ca,cb,cc]) ρ _ rB {s with heap:=h'}) hbad);refine Cx.Snd.bind' (Cx.Snd.holding (rF EV R' ha)) λ _ σ₁ _ hH tk1 ρ1 RA _=>?_
  refine Cx.Snd.bind' (Cx.Snd.holding (rF (EV.mono _) RA hb.mono)) λ _ σ₂ _ hV tk2 ρ2 RC _=>?_
  refine Cx.Snd.map (Cx.Snd.holding (rF ((EV.mono _).mono _) RC hc.mono.mono)) λ _ Y3 _ hW tk3 ρ3 _ RE _=>?_
  exact λ _=>aB (Cx.ret0 RE trivial)
 |bset bs=>
  refine .onS λ b q1=>.onS λ x q2=>?_
  rw[mj q1]at e1;rw[mj q2]at hx;obtain⟨px,r,rfl,hx1⟩:=oX hx;obtain⟨co,h1,h2⟩:=R.objs _ _ _ e1 ha;cases xK hx1;refine Cx.Snd.at λ hbad=>?_
  unfold unpack;refine ak (cJ (CV hA h1 h2 λ h' hx=>?_));have R':=R.junk (h':=h') hx;refine Cx.same ((?_:C.Snd A (assignInOrder [assign (.Name x px) env] [.bool b]) ρ _ rB {s with heap:=h'}) hbad);exact Cx.Snd.map (rel:=rB) (Cx.Snd.holding (rF EV R' rfl)) λ _ Y3 _ hW tk3 ρ3 _ RE _=>λ _=>aB (Cx.ret0 RE trivial)
 |_=>exact .of_bad
set_option tactic.hygienic true in
theorem Fb(O:Ops C A en env cl)(hev:Gn C A en env (jj cl n))(t:Expr)(EV:dm C A ρ en env)(R:C.Rep ρ s.heap Y){v:V}{c:ao}(hv:VR ρ v c):
  C.Snd A (assign t env c) ρ (MN cl n t v en Y) rB s:=by
 unfold MN;have k:=qK t;generalize view t=w at k ⊢;induction w
 case name=>obtain⟨p,rfl⟩:=k;exact rF EV R hv
 case attr=>
  cases k;rw[arm_assign_Attribute];refine Cx.Snd.bind' (Cx.Snd.holding (hev _ EV R)) λ ov σ₁ oc hH tk1 ρ1 RA ho=>Cx.Snd.at ?_
  refine Cx.Snd.bind' (Cx.Snd.holding (O.setAttr RA ho hv.mono)) λ _ σ₂ _ hV tk2 ρ2 RC _=>?_
  exact λ _=>rC (Cx.ret0 RC trivial)
 case sub o i=>
  obtain⟨p,rfl⟩:=k;show C.Snd A _ _ (if Af i then .bad else GZ (jj cl n) o i en (λ ov iv Y=>(p7 ov iv v Y).bind λ _ Y=>.ok () Y) Y) _ _;split
  ·exact .of_bad
  ·rw[arm_assign_Subscript];refine WY EV (Cx.Snd.holding (hev _ EV R)) (λ _ _ _ _ EV R=>Cx.Snd.holding (hev _ EV R)) λ EV R ho hi=>Cx.Snd.at ?_
   refine Cx.Snd.bind' (Cx.Snd.holding (Nj R ho hi hv.mono)) λ _ Y3 _ hW tk3 ρ3 RE _=>?_
   exact λ _=>rC (Cx.ret0 RE trivial)
 case tup es=>
  obtain⟨k,tp,rfl⟩:=k;exact .cond λ hfree=>.onS λ xs hx=>QH hx (EV.free hfree) EV R hv
 all_goals exact .of_bad
end
section
variable {C:Cx}{A:bJ}{ρ:List aR}{s:aD}{Y:St}{en:En}{env:Env}{ex:Stmt->En->St->aC Fl}
theorem Cx.Snd.calm{α β:Type}{t:Sem β}{r:aC α}{rel:List aR->α->β->Prop}{Q:β->aD->Prop}{E:ao->aD->Prop}(h:C.Snd A t ρ r rel s)(hn:r≠.bad)(he:∀x Y',r≠.exc x Y')
  (k:∀a Y' b h' tk ρ',r=.ok a Y'->C.Rep (ρ++ρ') h' Y'->rel (ρ++ρ') a b->Q b {s with heap:=h',toks:=tk}):bI (model C.prog C.w) A t Q E s:=by
 refine cO (h hn) ?_ ?_
 ·rintro b s' ⟨a,Y',h',tk,ρ',e,rfl,R,x⟩;exact k a Y' b h' tk ρ' e R x
 ·rintro e s' ⟨x,Y',h',tk,ρ',e1,_,_⟩;exact absurd e1 (he x Y')
theorem bindN_ok{α β:Type}{r:aC α}{k:α->St->aC β}(h:r.bindN k≠.bad):∃a Y',r=.ok a Y'/\r.bindN k=k a Y':=by
 induction r with
 |ok a Y'=>exact⟨a,Y',rfl,rfl⟩
 |exc _ _=>exact absurd rfl h
 |bad=>exact absurd rfl h
set_option tactic.hygienic true in
theorem QJ(test:St->aC Bool)(body orelse:St->aC Fl)(n:Nat)(Y:St):nT test body orelse (n+1) Y=(test Y).bindN λ b Y=>if b then(body Y).bindN λ fl Y=>match fl with
   |.next|.cont=>nT test body orelse n Y
   |.brk=>.ok .next Y
   |.ret v=>.ok (.ret v) Y
  else(orelse Y).bindN λ f Y=>.ok f Y:=rfl
inductive ahR(C:Cx)(ρ:List aR)(s:aD)(W:Nat->St->aC Fl)(F:aC Fl)(k:Nat)(s':aD):Prop
 |mk (Y':St) (ρ':List aR) (h:cG) (tk:Nat) (e:s'={s with heap:=h,toks:=tk}) (R:C.Rep (ρ++ρ') h Y') (hk:W k Y'=F)
set_option tactic.hygienic true in
theorem Yp{F rest:aC Fl}{fb:Fl}{σb:St}{Q:Flow->aD->Prop}{ρ5:List aR}{hX:cG}{tk5:Nat}{f:Flow}{again:Prop}
  (hQ:∀fl Y' f h' tk ρ',F=.ok fl Y'->C.Rep (ρ++ρ') h' Y'->vy (ρ++ρ') fl f->Q f {s with heap:=h',toks:=tk})
  (hf:(match fb with
   |.next|.cont=>rest
   |.brk=>.ok .next σb
   |.ret v=>.ok (.ret v) σb)=F) (R:C.Rep (ρ++ρ5) hX σb) (hfl:vy (ρ++ρ5) fb f) (ag:rest=F->again):match(generalizing:=false) f with
   |.next|.cont=>again
   |.brk=>Q .next {s with heap:=hX,toks:=tk5}
   |.ret v=>Q (.ret v) {s with heap:=hX,toks:=tk5}:=by
 induction fb with
 |next=>subst hfl;exact ag hf
 |cont=>subst hfl;exact ag hf
 |brk=>subst hfl;exact hQ .next _ .next hX tk5 _ hf.symm R rfl
 |ret v=>obtain⟨c,rfl,hc⟩:=hfl;exact hQ (.ret v) _ _ hX tk5 _ hf.symm R ⟨c,rfl,hc⟩
theorem Yq{te:Expr->En->St->aC Bool}(hte:TeS C A en env te)(hex:ExS C A en env ex){test:Expr}{body orelse:List Stmt}{n:Nat}(EV:dm C A ρ en env)(R:C.Rep ρ s.heap Y)
  {Q:Flow->aD->Prop}{E:ao->aD->Prop}(hr:nT (te test en) (bY ex body en) (bY ex orelse en) n Y≠.bad)
  (hQ:∀fl Y' f h' tk ρ',nT (te test en) (bY ex body en) (bY ex orelse en) n Y=.ok fl Y'->C.Rep (ρ++ρ') h' Y'->vy (ρ++ρ') fl f->Q f {s with heap:=h',toks:=tk}):
  f9 (model C.prog C.w) A (.whileLoop test body orelse env) (λ r s'=>match r with|.ok f=>Q f s'|.error e=>E e s') s:=by
 have hS:=QJ (te test en) (bY ex body en) (bY ex orelse en);have hZ:∀Y,nT (te test en) (bY ex body en) (bY ex orelse en) 0 Y=.bad:=λ _=>rfl
 generalize nT (te test en) (bY ex body en) (bY ex orelse en)=W at*;generalize hF:W n Y=F at*;refine codeAny_whileLoop (ahR C ρ s W F) (λ k s' I=>?_) n ⟨Y,[],s.heap,s.toks,rfl,by rw[aW];exact R,hF⟩;obtain⟨Y',ρ',h,tk,rfl,R',hk⟩:=I;refine uq λ G toG=>?_
 induction k with
 |zero=>exact absurd (hk.symm.trans (hZ _)) hr
 |succ k=>
  replace hk:=(hS k Y').symm.trans hk;obtain⟨b,σ₁,e1,e2⟩:=bindN_ok (xu hk hr);replace hk:=e2.symm.trans hk;refine toG (Cx.Snd.calm (hte test (s:={s with heap:=h,toks:=tk}) (EV.mono _) R') (by rw[e1];nofun) (by rw[e1];nofun) λ b' σ'1 c hH tk1 ρ1 e3 RA hc=>uq λ G toG=>?_);have e8:=aC.ok.inj (e1.symm.trans e3);simp only[<-e8.2]at RA;rw[<-hc,<-e8.1]at toG;clear e1 e2 e8;induction b with
  |false=>
   obtain⟨f,σ₂,e4,e5⟩:=bindN_ok (xu hk hr);refine toG (Cx.Snd.calm (iV hex orelse (s:={s with heap:=hH,toks:=tk1}) ((EV.mono _).mono _) RA) (by rw[e4];nofun) (by rw[e4];nofun) λ fl σ'2 f' hV tk2 ρ2 e6 RC hf=>?_);rw[aj (ρ++ρ'),aj]at RC hf;have e8:=aC.ok.inj (e4.symm.trans e6);exact hQ fl σ'2 f' hV tk2 _ ((e5.symm.trans hk).symm.trans (by rw[e8.1,e8.2])) RC hf
  |true=>
   obtain⟨f,σ₂,e4,e5⟩:=bindN_ok (xu hk hr);replace hk:=e5.symm.trans hk;refine toG (Cx.Snd.calm (iV hex body (s:={s with heap:=hH,toks:=tk1}) ((EV.mono _).mono _) RA) (by rw[e4];nofun) (by rw[e4];nofun) λ fl σ'2 f' hV tk2 ρ2 e6 RC hf=>?_);have e8:=aC.ok.inj (e4.symm.trans e6);rw[aj (ρ++ρ'),aj,<-e8.1]at hf;rw[aj (ρ++ρ'),aj,<-e8.2]at RC;exact Yp hQ hk RC hf λ q=>⟨k,Nat.lt_succ_self k,σ₂,_,hV,tk2,rfl,RC,q⟩
theorem Yr{te:Expr->En->St->aC Bool}(hte:TeS C A en env te)(hex:ExS C A en env ex){test:Expr}{body orelse:List Stmt}{pos:Pos}{n:Nat}(EV:dm C A ρ en env)(R:C.Rep ρ s.heap Y):
  C.Snd A (exec (.While test body orelse pos) env) ρ (nT (te test en) (bY ex body en) (bY ex orelse en) n Y) vy s:=by
 intro hb;refine wpAny_While (Yq hte hex EV R hb λ fl Y' f h' tk ρ' e R' hf=>?_);exact⟨fl,Y',h',tk,ρ',e,rfl,R',hf⟩
end
noncomputable def Cx.on(C:Cx)(g:cG):Cx:={C with h₀:=g}
noncomputable def Sub(h h':cG):Prop:=∀b o,h.get? b=some o->h'.get? b=some o
section
variable {C:Cx}{A:bJ}{ρ:List aR}{s:aD}{Y:St}{en:En}{env:Env}{ex:Stmt->En->St->aC Fl}{h:cG}
theorem jt{h h':cG}(x:Sub h h'){a:aR}(e:h'.get? a=none):h.get? a=none:=by
 induction q:h.get? a with
 |none=>rfl
 |some o=>have:=x a o q;rw[e]at this;cases this
theorem Rep.weak{g:cG}(x:Sub C.h₀ g)(hs:(C.h₀.get? gk).isSome=true)(R:(C.on g).Rep ρ h Y):C.Rep ρ h Y where
 keep:=λ b o e=>Mine.Rep.keep R b o (x b o e)
 loc:=Mine.Rep.loc R
 newL:=jt x (Mine.Rep.newL R)
 len:=Mine.Rep.len R
 nodup:=Mine.Rep.nodup R
 notL:=Mine.Rep.notL R
 fresh:=λ i a hi e=>jt x (Mine.Rep.fresh R i a hi e)
 objs:=Mine.Rep.objs R
 callers:=λ p hp=>let ⟨a,y⟩:=Mine.Rep.callers R p hp;⟨a,y.frame,y.ns,jt x y.new,y.notL,y.notIn,y.fn⟩
 sysIn:=hs
 sys:=Mine.Rep.sys R
 fsnd:=Mine.Rep.fsnd R
structure jb(C:Cx)(ρ:List aR)(a:aR):Prop where
 notIn:a∉ρ
 notL:a≠C.L
 notF:∀p∈C.FS,p.1.locals≠a
inductive afm(C:Cx)(ρ:List aR)(h:cG)(Y:St):Prop
 |mk (g:cG) (h1:Sub C.h₀ g) (h2:Sub g h) (R:(C.on g).Rep ρ h Y) (h3:∀a o,h.get? a=some o->jb C ρ a->g.get? a=some o)
theorem Rep.strong(R:C.Rep ρ h Y):afm C ρ h Y:=by
 let l:=C.L::(ρ.drop k0++C.FS.map (·.1.locals))
 have hl:∀a,(∃o,C.h₀.get? a=some o)->a∉l:=by
  rintro a ⟨o,e⟩ hm;rcases bU.mp hm with q|q
  ·rw[q,Mine.Rep.newL R]at e;contradiction
  rcases aM.mp q with q|q
  ·obtain⟨i,hi,e'⟩:=iJ q;rw[List.getElem_drop]at e';have:=Mine.Rep.fresh R (k0+i) a (by simp) (by rw[<-e'];exact bf _);rw[this]at e;contradiction
  ·obtain⟨p,hp,e'⟩:=dD.mp q;obtain⟨b,y⟩:=Mine.Rep.callers R p hp;rw[y.frame]at e';induction e';have:=y.new;rw[this]at e;contradiction
 have sub:Sub C.h₀ (hideAll h l):=λ b o e=>hideAll_get l ((Mine.Rep.keep R) b o e) (hl b ⟨o,e⟩)
 refine⟨hideAll h l,sub,λ b o e=>of_hideAll l e,⟨λ b o e=>of_hideAll l e,Mine.Rep.loc R,jy l (.head _),Mine.Rep.len R,Mine.Rep.nodup R,Mine.Rep.notL R,λ i a hi e=>?_,Mine.Rep.objs R,λ p hp=>?_,?_,Mine.Rep.sys R,Mine.Rep.fsnd R⟩,λ a o e ap=>hideAll_get l e λ hm=>?_⟩
 ·refine jy l (.tail _ (cg _ ?_));have:(ρ.drop k0)[i - k0]?=some a:=by rw[List.getElem?_drop,show k0+(i - k0)=i by lia];exact e
  exact bG this
 ·obtain⟨a,y⟩:=Mine.Rep.callers R p hp;exact⟨a,y.frame,y.ns,jy l (.tail _ (iu _ (dD.mpr ⟨p,hp,y.frame⟩))),y.notL,y.notIn,y.fn⟩
 ·have:=Mine.Rep.sysIn R;induction q:C.h₀.get? gk with
  |none=>rw[q]at this;contradiction
  |some o=>show((hideAll h l).get? gk).isSome=true;rw[sub _ _ q];rfl
 ·rcases bU.mp hm with q|q
  ·exact ap.notL q
  rcases aM.mp q with q|q
  ·exact ap.notIn (List.mem_of_mem_drop q)
  ·obtain⟨p,hp,e'⟩:=dD.mp q;exact ap.notF p hp e'
theorem jb.new(R:C.Rep ρ h Y){a:aR}(e:h.get? a=none):jb C ρ a:=by
 refine⟨λ q=>?_,λ q=>?_,λ p hp q=>?_⟩
 ·obtain⟨i,hi,e'⟩:=iJ q;have hi':i < Y.sto.length:=by rw[<-Mine.Rep.len R];exact hi
  obtain⟨co,h1,_⟩:=Mine.Rep.objs R i _ _ (bf hi') (bf hi);rw[e',e]at h1;contradiction
 ·obtain⟨m,⟨_,_,_,x,_⟩,_⟩:=Mine.Rep.loc R;rw[<-q,e]at x;contradiction
 ·obtain⟨b,y⟩:=Mine.Rep.callers R p hp;obtain⟨_,_,_,x,_⟩:=y.ns;rw[y.frame]at q;induction q;rw[e]at x;contradiction
theorem jb.stay{g:cG}{ρ':List aR}{a:aR}(ap:jb C ρ a){o:Obj}(e:g.get? a=some o)(R:(C.on g).Rep (ρ++ρ') h Y)(hk:k0<=ρ.length):jb C (ρ++ρ') a:=by
 refine⟨λ q=>?_,ap.notL,ap.notF⟩;rcases aM.mp q with q|q
 ·exact ap.notIn q
 ·obtain⟨i,hi,e'⟩:=iJ q;have:=Mine.Rep.fresh R (ρ.length+i) a (by exact dh _ (by assumption)) (by rw[cD (by simp),show ρ.length+i - ρ.length=i by simp,<-e'];exact bf _);have:g.get? a=none:=this;rw[this]at e;contradiction
theorem Rep.other(R:C.Rep ρ h Y){a:aR}{h':cG}(hs:lA a h h')(ap:jb C ρ a)(hn:C.h₀.get? a=none):C.Rep ρ h' Y where
 keep:=λ b o e=>hs b o (λ q=>by rw[q,hn]at e;contradiction) (Mine.Rep.keep R b o e)
 loc:=let ⟨m,x,y⟩:=Mine.Rep.loc R;⟨m,x.extBut hs (λ q=>ap.notL q.symm),y⟩
 newL:=Mine.Rep.newL R
 len:=Mine.Rep.len R
 nodup:=Mine.Rep.nodup R
 notL:=Mine.Rep.notL R
 fresh:=Mine.Rep.fresh R
 objs:=λ i o b e e'=>let ⟨co,x,y⟩:=Mine.Rep.objs R i o b e e';⟨co,hs b co (λ q=>ap.notIn (q▸bG e')) x,y⟩
 callers:=λ p hp=>let ⟨b,y⟩:=Mine.Rep.callers R p hp;⟨b,y.frame,y.ns.extBut hs (λ q=>ap.notF p hp (q▸y.frame)),y.new,y.notL,y.notIn,y.fn⟩
 sysIn:=Mine.Rep.sysIn R
 sys:=Mine.Rep.sys R
 fsnd:=Mine.Rep.fsnd R
inductive rG(ρ:List aR)(h:cG)(Y:St):V->aR->Nat->Prop
 |list {k:Nat}{xs:List V}{la it:aR}{i:Nat}(e:Y.sto[k]?=some (.list xs)) (ha:ρ[k]?=some la) (I:h.IsListIter it la i):rG ρ h Y (.ref k) it i
 |tup {k:Nat}{xs:List V}{la it:aR}{i:Nat}(e:Y.sto[k]?=some (.tup xs)) (ha:ρ[k]?=some la) (I:h.IsTupleIter it la i):rG ρ h Y (.ref k) it i
 |dict {k ep:Nat}{kvs:List (Str×V)}{la it:aR}{i:Nat}(e:Y.sto[k]?=some (.dict kvs ep)) (ha:ρ[k]?=some la) (I:h.IsKeyIter it la i kvs.length ep):rG ρ h Y (.ref k) it i
 |rng {k:Nat}{n:Int}{it:aR}{i:Nat}(e:Y.sto[k]?=some (.rng n)) (I:IsRangeIter h it (i:Int) (n - (i:Int)) 1):rG ρ h Y (.ref k) it i
 |view {k j ep:Nat}{kvs:List (Str×V)}{la it:aR}{i:Nat}(e:Y.sto[k]?=some (.view j)) (e':Y.sto[j]?=some (.dict kvs ep)) (ha:ρ[j]?=some la) (I:h.IsValIter it la i kvs.length ep):rG ρ h Y (.ref k) it i
theorem rG.obj{v:V}{it:aR}{i:Nat}(x:rG ρ h Y v it i):∃o,h.get? it=some o:=by
 induction x with
 |list _ _ I|tup _ _ I|dict _ _ I|view _ _ _ I=>obtain⟨o,e,_⟩:=I;exact⟨o,e⟩
 |rng _ I=>exact⟨_,I⟩
inductive ahS(v:V)(Y τ:St):Prop
 |mk (k:Nat) (e:v=.ref k) (h1:τ.sto[k]?=Y.sto[k]?) (h2:∀d,Y.sto[k]?=some (.view d)->τ.sto[d]?=Y.sto[d]?)
open Classical in
set_option tactic.hygienic true in
theorem vG{v:V}{Y τ:St}(e:cW v Y τ=true):ahS v Y τ:=by
 induction v with
 |ref k=>
  obtain⟨e1,e2⟩:=eE.mp (show aaS k Y τ=true from e);refine⟨k,rfl,of_decide_eq_true e1,λ d hd=>?_⟩;rw[Cy hd O.view?]at e2;exact of_decide_eq_true e2
 |_=>exact qW e
theorem Nx{v:V}{Y τ:St}(e:cW v Y τ=true):fD v τ=fD v Y:=by
 obtain⟨k,rfl,e1,e2⟩:=vG e;show(τ.sto[k]?).bind (Tt τ)=(Y.sto[k]?).bind (Tt Y);rw[e1];induction q:Y.sto[k]? with
 |none=>rfl
 |some o=>induction o<;>first|rfl|(show((τ.sto[_]?).bind O.dict?).bind _=_;rw[e2 _ q];rfl)
theorem rG.move{h':cG}{ρ':List aR}{Y':St}{v:V}{it:aR}{i:Nat}{o:Obj}(x:rG ρ h Y v it i)(e:h.get? it=some o)(e':h'.get? it=some o)(hs:cW v Y Y'=true):rG (ρ++ρ') h' Y' v it i:=by
 have e:=e'.trans e.symm;clear e';obtain⟨k,ek,e1,e2⟩:=vG hs;clear hs;induction x with
 |list q a I=>cases ek;obtain⟨o',b,c⟩:=I;exact .list (e1.trans q) (bK a) ⟨o',e.trans b,c⟩
 |tup q a I=>cases ek;obtain⟨o',b,c⟩:=I;exact .tup (e1.trans q) (bK a) ⟨o',e.trans b,c⟩
 |dict q a I=>cases ek;obtain⟨o',b,c⟩:=I;exact .dict (e1.trans q) (bK a) ⟨o',e.trans b,c⟩
 |rng q I=>cases ek;exact .rng (e1.trans q) (e.trans I)
 |view q q' a I=>cases ek;obtain⟨o',b,c⟩:=I;exact .view (e1.trans q) ((e2 _ q).trans q') (bK a) ⟨o',e.trans b,c⟩
end
section
variable {C:Cx}{A:bJ}{ρ:List aR}{s:aD}{Y:St}{en:En}{env:Env}{ex:Stmt->En->St->aC Fl}{h:cG}
theorem Hl{h:cG}{a:aR}{cs:Array ao}{n:Nat}(e:h.get? a=some {cls:=.type "tuple",dict:=none,data:=.seq cs n,slots:=#[]}):h.IsTuple a cs:=⟨_,e,rfl,n,rfl⟩
theorem Ys{n:Int}(h0:0<=n)(h1:n<=1000):Builtin.Range.small 0 n 1=true/\Builtin.Range.rangeSize 0 n 1=n:=by
 have e:Builtin.Range.rangeSize 0 n 1=n:=by
  unfold Builtin.Range.rangeSize;simp only[show(1:Int) > 0 by decide,if_true,Int.ediv_one];split<;>lia
 refine⟨?_,e⟩;delta Builtin.Range.small Builtin.Range.rangeFitsLong
 rw[e];simp;lia
inductive CW(Y:St):V->List V->Prop
 |list {k:Nat}{xs:List V}(e:Y.sto[k]?=some (.list xs)):CW Y (.ref k) xs
 |tup {k:Nat}{xs:List V}(e:Y.sto[k]?=some (.tup xs)):CW Y (.ref k) xs
 |dict {k ep:Nat}{kvs:List (Str×V)}(e:Y.sto[k]?=some (.dict kvs ep)):CW Y (.ref k) (kvs.map λ p=>.str p.1)
 |rng {k:Nat}{n:Int}(e:Y.sto[k]?=some (.rng n)):CW Y (.ref k) ((gj n.toNat).map λ k:Nat=>V.int (k:Int))
 |view {k j ep:Nat}{kvs:List (Str×V)}(e:Y.sto[k]?=some (.view j)) (e':Y.sto[j]?=some (.dict kvs ep)):CW Y (.ref k) (kvs.map (·.2))
theorem jV{α:Type}{b:Bool}{a x:α}(h:(if b=true then some a else none)=some x):a=x:=by
 induction b with
 |true=>exact Option.some.inj h
 |false=>first|exact ns h|exact qW h|cases h
theorem Yt{v:V}{xs:List V}(hx:fD v Y=some xs):CW Y v xs:=by
 induction v with
 |ref k=>
  obtain⟨o,e,hx⟩:=bk.mp hx;induction o with
  |list ys=>cases jV hx;exact .list e
  |tup ys=>cases jV hx;exact .tup e
  |dict kvs ep=>induction jV hx;exact .dict e
  |rng n=>cases hx;exact .rng e
  |view d=>
   obtain⟨p,e',hx⟩:=bk.mp hx;induction jV hx
   exact .view e (oZ e')
  |_=>exact ns hx
 |_=>exact ns hx
theorem W0(R:C.Rep ρ s.heap Y){v:V}{c:ao}{xs:List V}(hv:VR ρ v c)(hx:fD v Y=some xs){Q:ao->aD->Prop}{E:ao->aD->Prop}
  (hQ:∀it h',s.heap.get? it=none->Sub s.heap h'->rG ρ h' Y v it 0->Q (.ref it) {s with heap:=h'}):bI (model C.prog C.w) A (pyIter c) Q E s:=by
 refine uq λ G toG=>?_
 have hQ:∀o,rG ρ (s.heap.push o) Y v s.heap.objs.size 0->Q (.ref s.heap.objs.size) {s with heap:=s.heap.push o}:=λ o x=>hQ _ _ (dg (bV _)) (λ _ _ e=>bB _ e) x
 induction(Yt hx)with
 |list e=>
  obtain⟨a,ha,rfl⟩:=hv;obtain⟨cs,n,h1,h2⟩:=R.list e ha;exact toG (oK h1.isList (hQ _ (.list e ha ⟨_,bW _ rfl,rfl,rfl⟩)))
 |tup e=>
  obtain⟨a,ha,rfl⟩:=hv;obtain⟨cs,n,h1,h2⟩:=R.tup e ha;exact toG (wpAny_pyIter_tuple (Hl h1) (hQ _ (.tup e ha ⟨_,bW _ rfl,rfl,rfl⟩)))
 |dict e=>
  obtain⟨a,ha,rfl⟩:=hv;obtain⟨ckvs,h1,h2⟩:=R.dict e ha;exact toG (wpAny_pyIter_dict (Mine.Rep.sys R _ (bG ha)) h1 (hQ _ (.dict e ha ⟨_,bW _ rfl,rfl,by rw[lF h2];rfl⟩)))
 |rng e=>
  obtain⟨a,ha,rfl⟩:=hv;obtain⟨co,h1,t,u,w',rfl,n0,n1⟩:=R.objs _ _ _ e ha;obtain⟨q1,q2⟩:=Ys n0 n1;refine toG (wpAny_pyIter_range h1 q1 (hQ _ (.rng e ?_)));show Heap.get? _ _=_;rw[bW _ rfl,q2,show((0:Nat):Int)=0 from rfl,Int.sub_zero]
 |view e e'=>
  obtain⟨a,ha,rfl⟩:=hv;obtain⟨co,h1,dx,hd,c1,c2,c3⟩:=R.objs _ _ _ e ha;obtain⟨ckvs,h3,h4⟩:=R.dict e' hd;exact toG (wpAny_pyIter_values ⟨co,h1,c1,c2⟩ h3 (hQ _ (.view e e' hd ⟨_,bW _ rfl,rfl,by rw[lF h4];rfl⟩)))
theorem abq{kvs:List (Str×V)}{ckvs:List (Str×ao)}(h:cX (Kc ρ) kvs ckvs){i:Nat}{p:Str×V}(e:kvs[i]?=some p):∃c,ckvs[i]?=some (p.1,c)/\VR ρ p.2 c:=by
 obtain⟨q,h1,h2,h3⟩:=h.get e;obtain⟨k,c⟩:=q;exact⟨c,by rw[h1,h2],h3⟩
theorem afn(R:C.Rep ρ s.heap Y){v x:V}{it:aR}{xs:List V}{i:Nat}(hx:fD v Y=some xs)(hi:xs[i]?=some x)(I:rG ρ s.heap Y v it i){Q:Option ao->aD->Prop}{E:ao->aD->Prop}
  (hQ:∀c h' tk,dO it s.heap h'->rG ρ h' Y v it (i+1)->VR ρ x c->Q (some c) {s with heap:=h',toks:=tk}):bI (model C.prog C.w) A (pyNext (.ref it)) Q E s:=by
 refine uq λ G toG=>?_
 have hQ:∀{c h' tk},VR ρ x c->dO it s.heap h'->rG ρ h' Y v it (i+1)->Q (some c) {s with heap:=h',toks:=tk}:=λ a b c=>hQ _ _ _ b c a
 induction I with
 |list e ha I=>
  rw[G6 e]at hx;cases jV hx;obtain⟨cs,n,h1,h2⟩:=R.list e ha;obtain⟨c,hc,hv⟩:=h2.get hi;exact toG (oM I h1.isList (by rw[<-cV];exact hc) λ h' I' hs=>hQ (tk:=s.toks) hv hs (.list e ha I'))
 |tup e ha I=>
  rw[Nh e]at hx;cases jV hx;obtain⟨cs,n,h1,h2⟩:=R.tup e ha;obtain⟨c,hc,hv⟩:=h2.get hi;exact toG (wpAny_pyNext_tuple_item I (Hl h1) (by rw[<-cV];exact hc) λ h' I' hs=>hQ (tk:=s.toks) hv hs (.tup e ha I'))
 |dict e ha I=>
  rw[G7 e]at hx;induction jV hx
  obtain⟨ckvs,h1,h2⟩:=R.dict e ha;rw[fU,bx]at hi;obtain⟨p,hp,rfl⟩:=hi;obtain⟨c,hc,hv⟩:=abq h2 hp;rw[<-lF h2]at I;refine toG (wpAny_pyNext_dict_item I h1 hc λ key h' hk I' hs=>?_);obtain⟨t,rfl⟩:=Value.isStrOf_shape hk;exact hQ (tk:=s.toks) ⟨t,rfl⟩ hs (.dict e ha (by rw[<-lF h2];exact I'))
 |rng e I=>
  rw[Ni e]at hx;cases hx;rw[fU,bx]at hi;obtain⟨j,hj,rfl⟩:=hi;obtain⟨q1,q2⟩:=aN.mp hj;rw[oN]at q1;rw[List.getElem_range]at q2;subst q2;refine toG (wpAny_pyNext_range_item I (by clear toG hQ I hj e;lia) λ h' I' hs=>?_);rw[Int.sub_sub]at I';exact hQ ⟨_,rfl⟩ hs (.rng e I')
 |view e e' ha I=>
  rw[G8 e e']at hx;obtain⟨ckvs,h1,h2⟩:=R.dict e' ha;induction jV hx
  rw[fU,bx]at hi;obtain⟨p,hp,rfl⟩:=hi;obtain⟨c,hc,hv⟩:=abq h2 hp;rw[<-lF h2]at I;exact toG (wpAny_pyNext_values_item I h1 hc λ h' I' hs=>hQ (tk:=s.toks) hv hs (.view e e' ha (by rw[<-lF h2];exact I')))
theorem ahT(R:C.Rep ρ s.heap Y)(hA:A.handled=none){v:V}{it:aR}{xs:List V}{i:Nat}(hx:fD v Y=some xs)(hi:xs[i]?=none)(I:rG ρ s.heap Y v it i){Q:Option ao->aD->Prop}{E:ao->aD->Prop}
  (hQ:∀h',lA it s.heap h'->Q none {s with heap:=h'}):bI (model C.prog C.w) A (pyNext (.ref it)) Q E s:=by
 refine uq λ G toG=>?_
 have hi:=cU.mp hi;induction I with
 |list e ha I=>
  rw[G6 e]at hx;cases jV hx;obtain⟨cs,n,h1,h2⟩:=R.list e ha;exact toG (wpAny_pyNext_list_end hA I h1.isList (by rw[fH,gw h2];exact hi) hQ)
 |tup e ha I=>
  rw[Nh e]at hx;cases jV hx;obtain⟨cs,n,h1,h2⟩:=R.tup e ha;exact toG (wpAny_pyNext_tuple_end hA I (Hl h1) (by rw[fH,gw h2];exact hi) hQ)
 |dict e ha I=>
  rw[G7 e]at hx;induction jV hx
  obtain⟨ckvs,h1,h2⟩:=R.dict e ha;rw[<-lF h2]at I;rw[au,<-lF h2]at hi;exact toG (wpAny_pyNext_dict_end hA I h1 (cU.mpr hi) hQ)
 |rng e I=>
  rw[Ni e]at hx;cases hx;rw[au,oN]at hi;exact toG (wpAny_pyNext_range_end hA I (by clear toG hQ I e;lia) hQ)
 |view e e' ha I=>
  rw[G8 e e']at hx;induction jV hx
  obtain⟨ckvs,h1,h2⟩:=R.dict e' ha;rw[<-lF h2]at I;rw[au,<-lF h2]at hi;exact toG (wpAny_pyNext_values_end hA I h1 (cU.mpr hi) hQ)
end
section
variable {C:Cx}{A:bJ}{ρ:List aR}{s:aD}{Y:St}{en:En}{env:Env}{ex:Stmt->En->St->aC Fl}{h:cG}
theorem dm.on{g:cG}(x:dm C A ρ en env):dm (C.on g) A ρ en env:=⟨x.scope,x.kind,x.locals,x.globals,x.builtins,x.cells,x.free,x.units,x.room,x.files,x.stat,x.own⟩
open Classical in
theorem rH{k:Nat}{Y τ:St}:cW (.ref k) Y τ=true↔τ.sto[k]?=Y.sto[k]?/\∀d,Y.sto[k]?=some (.view d)->τ.sto[d]?=Y.sto[d]?:=by
 refine⟨λ e=>?_,λ⟨e1,e2⟩=>?_⟩
 ·obtain⟨k',hk,a,b⟩:=vG e;cases hk;exact⟨a,b⟩
 ·refine eE.mpr ⟨decide_eq_true e1,?_⟩;induction q:Y.get k O.view? with
  |none=>rfl
  |some d=>
   obtain⟨o,h1,h2⟩:=bk.mp q;exact decide_eq_true (e2 _ (h1.trans (by induction o<;>first|exact ns h2|(cases h2;rfl))))
theorem Ny{v:V}{a b c:St}(h1:cW v a b=true)(h2:cW v a c=true):cW v b c=true:=by
 obtain⟨k,rfl,_⟩:=vG h1;obtain⟨x1,x2⟩:=rH.mp h1;obtain⟨y1,y2⟩:=rH.mp h2;refine rH.mpr ⟨y1.trans x1.symm,λ d hd=>?_⟩;rw[x1]at hd;exact(y2 d hd).trans (x2 d hd).symm
set_option tactic.hygienic true in
theorem Av{ok:St->Bool}{body:V->St->aC Fl}{v:V}{r:List V}{Y:St}(h:qJ ok body (v::r) Y≠.bad):ok Y=true/\∃f Y',body v Y=.ok f Y'/\qJ ok body (v::r) Y=(match f with
   |.next|.cont=>qJ ok body r Y'
   |.brk=>.ok .brk Y'
   |.ret v=>.ok (.ret v) Y'):=by
 have e:qJ ok body (v::r) Y=if ok Y then(body v Y).bindN λ fl Y=>match fl with
   |.next|.cont=>qJ ok body r Y
   |.brk=>.ok .brk Y
   |.ret v=>.ok (.ret v) Y
  else .bad:=rfl
 rw[e]at h ⊢;split at h
 ·rename_i hok
  rw[if_pos hok];obtain⟨f,Y',e1,e2⟩:=bindN_ok h;exact⟨hok,f,Y',e1,e2⟩
 ·exact absurd rfl h
set_option tactic.hygienic true in
theorem Fd{ok:St->Bool}{body:V->St->aC Fl}{Y:St}(h:qJ ok body [] Y≠.bad):ok Y=true/\qJ ok body [] Y=.ok .next Y:=by
 have e:qJ ok body [] Y=if ok Y then .ok .next Y else .bad:=rfl
 rw[e]at h ⊢;split at h
 ·rename_i hok;rw[if_pos hok];exact⟨hok,rfl⟩
 ·exact absurd rfl h
theorem Fe{r:aC Fl}{o:St->aC Fl}(h:jq r o≠.bad):∃f Y',r=.ok f Y':=by
 obtain⟨f,Y',e,_⟩:=bindN_ok (r:=r) h;exact⟨f,Y',e⟩
set_option tactic.hygienic true in
theorem QK{F rest:aC Fl}{o:St->aC Fl}{fb:Fl}{σb:St}{RR:Result->aD->Prop}{ρ5:List aR}{hX:cG}{tk5:Nat}{f:Flow}{again:Prop}
  (hQ:∀fl Y' f h' tk ρ',jq F o=.ok fl Y'->C.Rep (ρ++ρ') h' Y'->vy (ρ++ρ') fl f->RR (.ok f) {s with heap:=h',toks:=tk})
  (hf:(match fb with
   |.next|.cont=>rest
   |.brk=>.ok .brk σb
   |.ret v=>.ok (.ret v) σb)=F) (R:C.Rep (ρ++ρ5) hX σb) (hfl:vy (ρ++ρ5) fb f) (ag:rest=F->again):match(generalizing:=false) f with
   |.next|.cont=>again
   |.brk=>RR (.ok .next) {s with heap:=hX,toks:=tk5}
   |.ret v=>RR (.ok (.ret v)) {s with heap:=hX,toks:=tk5}:=by
 induction fb with
 |next=>subst hfl;exact ag hf
 |cont=>subst hfl;exact ag hf
 |brk=>subst hfl;exact hQ .next _ .next hX tk5 _ (by rw[<-hf];rfl) R rfl
 |ret v=>obtain⟨c,rfl,hc⟩:=hfl;exact hQ (.ret v) _ _ hX tk5 _ (by rw[<-hf];rfl) R ⟨c,rfl,hc⟩
inductive xN(C:Cx)(s:aD)(ρ:List aR)(Y:St)(kv:Nat)(it:aR)(xs:List V)(f:List V->St->Prop)(n:Nat)(s':aD):Prop
 |mk (i:Nat) (Y':St) (ρ':List aR) (h:cG) (tk:Nat) (σp:St) (ρp:List aR) (hp:cG) (ρq:List aR) (op:Obj) (e:s'={s with heap:=h,toks:=tk}) (R:C.Rep (ρ++ρ') h Y') (I:rG ρp hp σp (.ref kv) it i) (e1:hp.get? it=some op) (e2:h.get? it=some op) (e3:ρ++ρ'=ρp++ρq)
  (e4:cW (.ref kv) Y σp=true) (ap:jb C (ρ++ρ') it) (en:n=xs.length - i) (hf:f (xs.drop i) Y'):xN C s ρ Y kv it xs f n s'
theorem xN.start{ρ1 ρ0:List aR}{σ₁:St}{kv:Nat}{it:aR}{xs:List V}{f:List V->St->Prop}(R:C.Rep (ρ1++ρ0) s.heap Y)(I:rG ρ1 s.heap σ₁ (.ref kv) it 0)(ap:jb C (ρ1++ρ0) it)(hf:f xs Y)(hs:cW (.ref kv) σ₁ σ₁=true):xN C s (ρ1++ρ0) σ₁ kv it xs f xs.length s:=by
 obtain⟨op,hop⟩:=I.obj;exact⟨0,Y,[],s.heap,s.toks,σ₁,ρ1,s.heap,ρ0,op,rfl,by rw[aW];exact R,I,hop,hop,by rw[aW],hs,by rw[aW];exact ap,rfl,hf⟩
theorem xN.next{kv:Nat}{it:aR}{xs:List V}{f:List V->St->Prop}{n:Nat}{s':aD}(L:xN C s ρ Y kv it xs f n s')(hx:fD (.ref kv) Y=some xs)(hn:C.h₀.get? it=none)(hk:k0<=ρ.length)(hA:A.handled=none)(hok:∀r Y',f r Y'->cW (.ref kv) Y Y'=true){Q:Option ao->aD->Prop}{E:ao->aD->Prop}
  (hend:∀Y' ρ' h tk,f [] Y'->C.Rep (ρ++ρ') h Y'->Q none {s with heap:=h,toks:=tk})
  (hnext:∀x r g c Y' ρ' h tk,f (x::r) Y'->Sub C.h₀ g->(C.on g).Rep (ρ++ρ') h Y'->VR (ρ++ρ') x c->
   (∀YA hY tk4 ρ4,(C.on g).Rep ((ρ++ρ')++ρ4) hY YA->C.Rep (ρ++(ρ'++ρ4)) hY YA/\(f r YA->∃m,m < n/\xN C s ρ Y kv it xs f m {s with heap:=hY,toks:=tk4}))->Q (some c) {s with heap:=h,toks:=tk}):
  bI (model C.prog C.w) A (pyNext (.ref it)) Q E s':=by
 obtain⟨i,Y',ρ',h,tk,σp,ρp,hp,ρq,op,rfl,R,I,e1,e2,e3,e4,ap,rfl,hf⟩:=L;have hok':=hok _ _ hf;have hx':fD (.ref kv) Y'=some xs:=by rw[Nx hok'];exact hx
 have I2:rG (ρ++ρ') h Y' (.ref kv) it i:=by rw[e3];exact I.move e1 e2 (Ny e4 hok')
 induction hi:xs[i]? with
 |none=>
  rw[cP (cU.mp hi)]at hf;exact ahT (s:={s with heap:=h,toks:=tk}) R hA hx' hi I2 λ hH hs=>hend Y' ρ' hH tk hf (Rep.other R hs ap hn)
 |some x=>
  obtain⟨hil,hxe⟩:=aN.mp hi;rw[eF hil,hxe]at hf;refine afn (s:={s with heap:=h,toks:=tk}) R hx' hi I2 λ c hH tk1 hs I3 hc=>?_
  have RA:C.Rep (ρ++ρ') hH Y':=Rep.other R hs.extBut ap hn;obtain⟨g,g1,g2,Rg,g3⟩:=Rep.strong RA;obtain⟨oit,hoit⟩:=I3.obj;have hgit:=g3 it oit hoit ap;refine hnext x _ g c Y' ρ' hH tk1 hf g1 Rg hc λ YA hY tk4 ρ4 RF=>?_
  have RH:C.Rep (ρ++(ρ'++ρ4)) hY YA:=by rw[<-aj];exact Rep.weak (C:=C) g1 (Mine.Rep.sysIn RA) RF
  refine⟨RH,λ hf'=>⟨xs.length - (i+1),by omega,⟨i+1,YA,ρ'++ρ4,hY,tk4,Y',ρ++ρ',hH,ρ4,oit,rfl,RH,I3,hoit,Mine.Rep.keep RF it oit hgit,(aj ..).symm,hok',?_,rfl,hf'⟩⟩⟩;rw[<-aj];exact jb.stay ap hgit RF (by rw[aq];exact dh _ (by assumption))
theorem CX{v:V}{xs:List V}(hx:fD v Y=some xs):∃k,v=.ref k:=by
 induction v<;>first|exact ns hx|exact⟨_,rfl⟩
theorem Ho(kv:Nat)(Y:St):cW (.ref kv) Y Y=true:=rH.mpr ⟨rfl,λ _ _=>rfl⟩
theorem bind_some{α β:Type}{r:aC α}{k:α->St->aC β}{b:β}{τ:St}(h:r.bind k=.ok b τ):∃a Y,r=.ok a Y/\k a Y=.ok b τ:=by
 induction r with
 |ok a Y=>exact⟨a,Y,rfl,h⟩
 |exc e Y=>first|exact ns h|exact qW h|contradiction
 |bad=>first|exact ns h|exact qW h|contradiction
theorem Gp{o:St->aC Fl}(h:jq (.ok .next Y) o≠.bad):o Y≠.bad/\∀y Y',o Y≠.exc y Y':=by
 refine⟨λ q=>h ?_,λ y Y'' q=>h ?_⟩<;>(show(o Y).bindN _=.bad;rw[q];rfl)
noncomputable def afo(ok:St->Bool)(B:V->St->aC Fl)(F:aC Fl)(r:List V)(Y:St):Prop:=ok Y=true/\qJ ok B r Y=F
theorem W2{ok:St->Bool}{B:V->St->aC Fl}{F:aC Fl}{r:List V}(e:qJ ok B r Y=F)(hF:F≠.bad):afo ok B F r Y:=by
 refine⟨?_,e⟩;induction r with
 |nil=>exact(Fd (by rw[e];exact hF)).1
 |cons v r=>exact(Av (by rw[e];exact hF)).1
set_option tactic.hygienic true in
theorem QL(hex:∀g,Sub C.h₀ g->ExS (C.on g) A en env ex)(hA:A.handled=none){x:Str}{px:Pos}{body orelse:List Stmt}(EV:dm C A ρ en env)(R:C.Rep ρ s.heap Y){v:V}{xs:List V}{it:aR}
  (hk:k0<=ρ.length) (hx:fD v Y=some xs) (I:rG ρ s.heap Y v it 0) (ap:jb C ρ it) (hn:C.h₀.get? it=none) {RR:Result->aD->Prop}
  {B:V->St->aC Fl}(hB:∀c Y,B c Y=(gF en x c Y).bind λ _ Y=>bY ex body en Y) (hr:jq (qJ (cW v Y) B xs Y) (bY ex orelse en)≠.bad)
  (hQ:∀fl Y' f h' tk ρ',jq (qJ (cW v Y) B xs Y) (bY ex orelse en)=.ok fl Y'->C.Rep (ρ++ρ') h' Y'->vy (ρ++ρ') fl f->RR (.ok f) {s with heap:=h',toks:=tk}):
  f9 (model C.prog C.w) A (.forLoop (.Name x px) (.ref it) body orelse env) RR s:=by
 obtain⟨kv,rfl⟩:=CX hx;generalize hF:qJ (cW (.ref kv) Y) B xs Y=F at*;have hF0:F≠.bad:=let ⟨_,_,q⟩:=Fe hr;by rw[q];nofun
 have h0:xN C s ρ Y kv it xs (afo (cW (.ref kv) Y) B F) xs.length s:=by
  have:=xN.start (C:=C) (s:=s) (ρ0:=[]) (f:=afo (cW (.ref kv) Y) B F) (by rw[aW];exact R) I (by rw[aW];exact ap) (W2 hF hF0) (Ho kv Y);rw[aW]at this;exact this
 refine codeAny_forLoop (xN C s ρ Y kv it xs (afo (cW (.ref kv) Y) B F)) (λ n s' L=>?_) xs.length h0;refine L.next hx hn hk hA (λ _ _ q=>q.1) (λ Y' ρ' h tk hf R'=>uq λ G toG=>?_) λ xv r g c Y' ρ' h tk hf g1 Rg hc hz=>uq λ G toG=>?_
 ·have hf:=hf.2.symm.trans (Fd (xu hf.2 hF0)).2;rw[hf]at hr;refine toG (Cx.Snd.calm (iV (hex C.h₀ λ _ _ e=>e) orelse (s:={s with heap:=h,toks:=tk}) (EV.mono _) R') (Gp hr).1 (Gp hr).2 λ fl σ₂ f hV tk2 ρ2 e6 RC hfl=>?_);rw[aj]at RC hfl;refine hQ fl σ₂ f hV tk2 (ρ'++ρ2) ?_ RC hfl;rw[hf];show(bY ex orelse en _).bindN _=_;rw[e6];rfl
 ·obtain⟨-,fb,σb,hbody,hb2⟩:=Av (xu hf.2 hF0);rw[hB]at hbody;obtain⟨u,σs,hst,hbody⟩:=bind_some hbody;have asg:(C.on g).Snd A (assign (.Name x px) env c) (ρ++ρ') (gF en x xv Y') rB {s with heap:=h,toks:=tk}:=by
   exact Cx.Snd.at (jr (EV.on.mono _) Rg x hc)
  refine toG (Cx.Snd.calm (C:=C.on g) asg (by rw[hst];nofun) (by rw[hst];nofun) λ _ σs' _ hV tk2 ρ2 e6 RC _=>?_);simp only[<-(aC.ok.inj (hst.symm.trans e6)).2]at RC;refine Cx.Snd.calm (C:=C.on g) (iV (hex g g1) body (s:={s with heap:=hV,toks:=tk2}) ((EV.on.mono _).mono _) RC) (by rw[hbody];nofun) (by rw[hbody];nofun) λ fl Y3 f hW tk3 ρ3 e7 RE hfl=>?_
  have e8:=aC.ok.inj (hbody.symm.trans e7);rw[aj (ρ++ρ'),<-e8.2]at RE;rw[aj (ρ++ρ'),aj,<-e8.1]at hfl;exact QK hQ (hb2.symm.trans hf.2) (hz σb hW tk3 (ρ2++ρ3) RE).1 hfl λ q=>(hz σb hW tk3 (ρ2++ρ3) RE).2 (W2 q hF0)
theorem CZ{e:Expr}(h:wJ e=false)(env:Env)(x:ao):foldedSetIterable e env x=pure x:=by
 induction e using PySem.Expr.casesOn<;>first|rfl|contradiction
set_option tactic.hygienic true in
theorem afp{ev:Expr->En->St->aC V}(hev:Gn C A en env ev)(hex:∀g,Sub C.h₀ g->ExS (C.on g) A en env ex)(hA:A.handled=none){x:Str}{px:Pos}{iter:Expr}{body orelse:List Stmt}{pos:Pos}(EV:dm C A ρ en env)(R:C.Rep ρ s.heap Y)(hs:wJ iter=false):
  C.Snd A (exec (.For (.Name x px) iter body orelse pos) env) ρ ((ev iter en Y).bind (ahJ ex x body orelse en)) vy s:=by
 refine Cx.Snd.at ?_;refine Cx.Snd.bind' (hev iter EV R) λ v σ₁ c hH tk1 ρ1 RA hv=>?_
 rw[CZ hs];refine Cx.Snd.at ?_;unfold ahJ;split
 ·rename_i xs hx
  intro hb;refine ak (cJ ?_);refine W0 (s:={s with heap:=hH,toks:=tk1}) RA hv hx λ it hV hnone hsub I=>wpAny_runOwn ?_
  refine QL (s:={s with heap:=hV,toks:=tk1}) hex hA (EV.mono _) (RA.junk (s:={s with heap:=hH,toks:=tk1}) hsub) (EV.mono _).stat hx I (jb.new RA hnone) (jt (λ b o e=>Mine.Rep.keep RA b o e) hnone) (λ _ _=>rfl) hb λ fl Y' f h' tk ρ' e R' hf=>?_
  exact⟨fl,Y',h',tk,ρ',e,rfl,R',hf⟩
 ·exact .of_bad
end
section
variable {C:Cx}{A:bJ}{ρ:List aR}{s:aD}{Y:St}{en:En}{env:Env}{ex:Stmt->En->St->aC Fl}{h:cG}
theorem agQ{h h':cG}{L:aR}{m:Str->Option ao}(x:h.Ns L m)(e:∀o,h.get? L=some o->h'.get? L=some o):h'.Ns L m:=x.at e
theorem Rep.upd2(R:C.Rep ρ h Y){i j:Nat}{a b:aR}{oi oj:O}{ci cj:Obj}{h':cG}(hi:k0<=i)(hj:k0<=j)(ha:ρ[i]?=some a)(hb:ρ[j]?=some b)
  (hs:∀c o,c≠a->c≠b->h.get? c=some o->h'.get? c=some o) (hca:h'.get? a=some ci) (hcb:h'.get? b=some cj) (hoi:i≠j->OR C.prog C.w ρ oi ci) (hoj:OR C.prog C.w ρ oj cj):
  C.Rep ρ h' ((Y.upd i oi).upd j oj):=by
 have na:a∈ρ:=bG ha;have nb:b∈ρ:=bG hb;refine⟨λ c o e=>hs c o (λ q=>by rw[q,(Mine.Rep.fresh R i a hi ha)]at e;contradiction) (λ q=>by rw[q,(Mine.Rep.fresh R j b hj hb)]at e;contradiction) (Mine.Rep.keep R c o e),?_,Mine.Rep.newL R,by simp[St.upd,Mine.Rep.len R],Mine.Rep.nodup R,Mine.Rep.notL R,Mine.Rep.fresh R,?_,?_,Mine.Rep.sysIn R,Mine.Rep.sys R,Mine.Rep.fsnd R⟩
 ·obtain⟨m,x,y⟩:=Mine.Rep.loc R;exact⟨m,agQ x λ o e=>hs _ o (λ q=>Mine.Rep.notL R (q▸na)) (λ q=>Mine.Rep.notL R (q▸nb)) e,y⟩
 ·intro n o c e e';have hn:=(aN.mp e').1;have hl:n < Y.sto.length:=by rw[<-Mine.Rep.len R];exact hn
  have inj:∀{m d},ρ[m]?=some d->c=d->n=m:=λ{m d} e2 q=>by
   subst q;exact(oH hn (Mine.Rep.nodup R)).mp (e'.trans e2.symm)
  clear hi;by_cases hnj:n=j
  ·subst hnj;obtain rfl:b=c:=Option.some.inj (hb.symm.trans e');simp only[St.upd]at e;rw[bR (by simpa using hl)]at e;cases e;exact⟨cj,hcb,hoj⟩
  ·by_cases hni:n=i
   ·subst hni;obtain rfl:a=c:=Option.some.inj (ha.symm.trans e');simp only[St.upd]at e;rw[aY (λ q=>hnj q.symm),bR hl]at e;cases e;exact⟨ci,hca,hoi hnj⟩
   ·simp only[St.upd]at e;rw[aY (λ q=>hnj q.symm),aY (λ q=>hni q.symm)]at e;obtain⟨co,x,y⟩:=Mine.Rep.objs R n o c e e';exact⟨co,hs c co (λ q=>hni (inj ha q)) (λ q=>hnj (inj hb q)) x,y⟩
 ·intro p hp;obtain⟨c,y⟩:=Mine.Rep.callers R p hp;exact⟨c,y.frame,agQ y.ns λ o e=>hs _ o (λ q=>y.notIn (q▸na)) (λ q=>y.notIn (q▸nb)) e,y.new,y.notL,y.notIn,y.fn⟩
theorem Rep.upd1(R:C.Rep ρ h Y){i:Nat}{a:aR}{oi:O}{ci:Obj}{h':cG}(hi:k0<=i)(ha:ρ[i]?=some a)(hs:lA a h h')(hca:h'.get? a=some ci)(hoi:OR C.prog C.w ρ oi ci):C.Rep ρ h' (Y.upd i oi):=by
 have:=Rep.upd2 R (oi:=oi) (oj:=oi) hi hi ha ha (λ c o q _ e=>hs c o q e) hca hca (λ q=>absurd rfl q) hoi;rw[(by simp[St.upd]:(Y.upd i oi).upd i oi=Y.upd i oi)]at this;exact this
open Classical in
set_option tactic.hygienic true in
theorem Jv{e k l:Nat}{xs:List V}{body:Nat->V->St->aC Fl}{i:Nat}{v:V}{r:List V}{Y:St}(h:lY e k l xs body i (v::r) Y≠.bad):
  (Y.sto[e]?=some (.enum k i)/\Y.sto[k]?=some (.eit l i)/\Y.sto[l]?=some (.list xs))/\∃f Y',body i v ((Y.upd k (.eit l (i+1))).upd e (.enum k (i+1)))=.ok f Y'/\lY e k l xs body i (v::r) Y=(match f with
   |.next|.cont=>lY e k l xs body (i+1) r Y'
   |.brk=>.ok .brk Y'
   |.ret v=>.ok (.ret v) Y'):=by
 have e':lY e k l xs body i (v::r) Y=if Y.sto[e]?=some (.enum k i)/\Y.sto[k]?=some (.eit l i)/\Y.sto[l]?=some (.list xs)then(body i v ((Y.upd k (.eit l (i+1))).upd e (.enum k (i+1)))).bindN λ fl Y=>match fl with
   |.next|.cont=>lY e k l xs body (i+1) r Y
   |.brk=>.ok .brk Y
   |.ret v=>.ok (.ret v) Y
  else .bad:=rfl
 rw[e']at h ⊢;split at h
 ·rename_i hok
  rw[if_pos hok];obtain⟨f,Y',e1,e2⟩:=bindN_ok h;exact⟨hok,f,Y',e1,e2⟩
 ·exact absurd rfl h
open Classical in
set_option tactic.hygienic true in
theorem Nz{e k l:Nat}{xs:List V}{body:Nat->V->St->aC Fl}{i:Nat}{Y:St}(h:lY e k l xs body i [] Y≠.bad):
  (Y.sto[e]?=some (.enum k i)/\Y.sto[k]?=some (.eit l i)/\Y.sto[l]?=some (.list xs))/\lY e k l xs body i [] Y=.ok .next (Y.upd k .any):=by
 have e':lY e k l xs body i [] Y=if Y.sto[e]?=some (.enum k i)/\Y.sto[k]?=some (.eit l i)/\Y.sto[l]?=some (.list xs)then .ok .next (Y.upd k .any)else .bad:=rfl
 rw[e']at h ⊢;split at h
 ·rename_i hok;rw[if_pos hok];exact⟨hok,rfl⟩
 ·exact absurd rfl h
section
variable {prog:cI}{w:eZ}{E:ao->aD->Prop}
theorem Hp{it l:aR}{i:Nat}{items:Array ao}{Q:ao->aD->Prop}(hh:A.handled=none)
  (hit:s.heap.IsListIter it l i) (hl:s.heap.IsList l items) (hx:items[i]?=none)
  (hE:∀h' e,lA it s.heap h'->(∃o,h'.get? it=some o)->(∃o,h'.get? e=some o/\o.cls=.type "StopIteration")->E (.ref e) {s with heap:=h'}):
  bI (model prog w) A (Builtin.SmallTypes.nextOf (.ref it)) Q E s:=by
 obtain⟨o,ho,hc,hd⟩:=id hit;obtain⟨ol,hol,_,nl,hdl⟩:=hl;refine ak (gA (name:=Str.ofString "__next__") hit.typeIs slot_listiter_next
  (d7 slot_listiter_next hit.typeIs entry_listiter_next ?_ (args_listiter_next _)))
 show bI _ _ (field (.ref it) 0 >>= _) _ _ s;refine ak (jO ho hd (x:=.ref l) rfl ?_);refine ak (jO ho hd (x:=.int i 0) rfl ?_);refine ak (jf hol hdl ?_);simp only[Int.toNat_natCast,hx];refine ak (lz (ak (lB ho hd (by simp) ?_)));refine ak ?_;refine ak (m:=firstArgMember _ _) (nO (a:=Value.none) (by first|rfl|(simp only[firstArgMember];rfl)) ?_);refine fQ ?_ (by size_fits);refine ak (wpAny_handled ?_);first|rw[show A.in1.handled=none from hh]|rw[hh]
 refine ak (aB (wpAny_throw ?_));refine hE _ _ (((cB ..).extBut.push _).push _) ⟨_,bB _ (bB _ (b8 _ ho ?_))⟩ ⟨_,bW _ rfl,rfl⟩;exact Obj.isFreed_of_fields (Obj.data_mapFields hd _)
theorem abr{e it l:aR}{i:Nat}{items:Array ao}{old:ao}{Q:Option ao->aD->Prop}(hh:A.handled=none)
  (he:IsEnum s.heap e it i old) (hit:s.heap.IsListIter it l i) (hl:s.heap.IsList l items) (hx:items[i]?=none)
  (hQ:∀h',lA it s.heap h'->(∃o,h'.get? it=some o)->Q none {s with heap:=h'}):bI (model prog w) A (pyNext (.ref e)) Q E s:=by
 have hT:s.TypeIs (.ref e) "enumerate":=⟨_,he,rfl⟩;refine ak (uh (gA (name:=Str.ofString "__next__") hT F.slot_enumerate_next
  (d7 F.slot_enumerate_next hT F.entry_enumerate_next ?_ (F.args_enumerate_next_1 _))))
 show bI _ _ (field (.ref e) 2 >>= _) _ _ _;refine ak (jO he rfl (x:=.ref it) rfl ?_);refine ak (Hp hh hit hl hx λ h' x he' hi' hx'=>?_);obtain⟨o,ho,hc⟩:=hx';refine ak (vh (T:="StopIteration") (b:=true) ⟨o,ho,hc⟩ isSubtype_stop ?_);exact aB (hQ _ he' hi')
end
inductive agR(C:Cx)(s:aD)(ρ:List aR)(xs:List V)(f:Nat->List V->St->Prop)(n:Nat)(s':aD):Prop
 |mk (i:Nat) (Y':St) (ρ':List aR) (h:cG) (tk:Nat) (e:s'={s with heap:=h,toks:=tk}) (R:C.Rep (ρ++ρ') h Y') (en:n=xs.length - i) (hf:f i (xs.drop i) Y'):agR C s ρ xs f n s'
noncomputable def akb(e k l:Nat)(xs:List V)(B:Nat->V->St->aC Fl)(F:aC Fl)(i:Nat)(r:List V)(Y:St):Prop:=lY e k l xs B i r Y=F
theorem Ks{e k l i:Nat}{ae:aR}{xs:List V}(R:C.Rep ρ s.heap Y)(q1:Y.sto[e]?=some (.enum k i))(q2:Y.sto[k]?=some (.eit l i))(q3:Y.sto[l]?=some (.list xs))(hae:ρ[e]?=some ae){P:Prop}
  (K:∀ita la old cs,IsEnum s.heap ae ita i old->ρ[k]?=some ita->s.heap.IsListIter ita la i->ρ[l]?=some la->s.heap.IsList la cs->cX (VR ρ) xs cs.toList->ae≠ita->P):P:=by
 obtain⟨ce,g1,ita,old,g2,rfl⟩:=Mine.Rep.objs R e _ ae q1 hae;obtain⟨ci,g3,la,g4,g5,g6⟩:=Mine.Rep.objs R k _ ita q2 g2;obtain⟨cs,m,h1,h2⟩:=Cx.Rep.list R q3 g4;refine K ita la old cs g1 g2 ⟨ci,g3,g5,g6⟩ g4 h1.isList h2 λ q=>?_
 clear g1 g3;subst q;exact(λ q=>by clear K g2;subst q;rw[q1]at q2;cases q2) ((oH (aN.mp hae).1 (Mine.Rep.nodup R)).mp (hae.trans g2.symm))
theorem Yu{e k l i:Nat}{ae:aR}{xs:List V}{xv:V}(hA:A.handled=none)(R:C.Rep ρ s.heap Y)(he:k0<=e)(hk:k0<=k)(q1:Y.sto[e]?=some (.enum k i))(q2:Y.sto[k]?=some (.eit l i))(q3:Y.sto[l]?=some (.list xs))(hae:ρ[e]?=some ae)(hi:xs[i]?=some xv){x y:Str}{px py tp:Pos}{tk0:Nat}{K:Unit->aD->Prop}{N:aD->Prop}{E:ao->aD->Prop}
  (hK:∀c hW tk,C.Rep ρ hW ((Y.upd k (.eit l (i+1))).upd e (.enum k (i+1)))->VR ρ xv c->bI (model C.prog C.w) A (assignInOrder [assign (.Name x px) env,assign (.Name y py) env] [.int i tk,c]) K E {s with heap:=hW,toks:=tk+1}):
  bI (model C.prog C.w) A (pyNext (.ref ae)) (λ r sC=>match r with
   |none=>N sC
   |some v=>bI (model C.prog C.w) A (letOwnedTupleGo (.Tuple [.Name x px,.Name y py] tk0 tp) (.ref ae) v) (λ _ s'1=>bI (model C.prog C.w) A (assign (.Tuple [.Name x px,.Name y py] tk0 tp) env v) K E s'1) E sC) E s:=by
 refine Ks R q1 q2 q3 hae λ ita la old cs g1 g2 hit g4 hl h2 hei=>?_
 obtain⟨c,hc,hv⟩:=h2.get hi;refine wpAny_pyNext_enum_item g1 hit hl (by rw[<-cV];exact hc) hei λ hH heo hit1 ht1 hzA hk1=>?_
 refine wpAny_letOwnedTupleGo_enum heo λ hV he2 hsA=>?_
 replace hsA:dO ae hH hV:=hsA;obtain⟨oit,ho1,ho2,ho3⟩:=hit1;have RC:C.Rep ρ hV ((Y.upd k (.eit l (i+1))).upd e (.enum k (i+1))):=by
  refine Rep.upd2 R (ci:=oit) hk he g2 hae (λ d o d1 d2 ed=>(hsA.2 d d2).trans (hk1 d o d2 d1 ed)) ((hsA.2 _ (Ne.symm hei)).trans ho1) he2 (λ _=>⟨la,g4,ho2,ho3⟩) ⟨ita,c,g2,?_⟩;rw[show((i+1:Nat):Int)=(i:Int)+1 from rfl]
 exact assign_Tuple_tuple hA (⟨_,(hsA.2 _ (gb (gM g1))).trans ht1,rfl,_,rfl⟩) rfl rfl λ hW hx=>hK c hW s.toks (Cx.Rep.junk (s:={s with heap:=hV,toks:=s.toks+1}) RC λ b o e=>hx b o (lN (gM e)) e) hv
theorem Ub(EV:dm C A ρ en env)(R:C.Rep ρ s.heap Y){x y:Str}{px py:Pos}{i:Int}{tk:Nat}{v:V}{c:ao}(hv:VR ρ v c):
  C.Snd A (assignInOrder [assign (.Name x px) env,assign (.Name y py) env] [.int i tk,c]) ρ ((gF en x (.int i) Y).bind λ _ Y=>gF en y v Y) rB s:=by
 refine Cx.Snd.bind' (rel:=rB) (Cx.Snd.holding ?_) λ _ σ₁ _ hH tk1 ρ1 RA _=>?_
 ·simp only[arm_assign_Name];exact Cx.Snd.at (jr EV R x ⟨tk,rfl⟩)
 ·refine Cx.Snd.map (rel:=rB) (Cx.Snd.holding ?_) λ _ Y3 _ hW tk3 ρ3 _ RE _=>λ _=>aB (Cx.ret0 RE trivial)
  exact Cx.Snd.at (jr (EV.mono _) RA y hv.mono)
theorem QM(exC:ExS C A en env ex)(hA:A.handled=none){x y:Str}{px py tp:Pos}{tk0:Nat}{body orelse:List Stmt}(EV:dm C A ρ en env)(R:C.Rep ρ s.heap Y){xs:List V}{e k l:Nat}{ae:aR}
  (he:k0<=e) (hk:k0<=k) (hae:ρ[e]?=some ae) {RR:Result->aD->Prop}
  {B:Nat->V->St->aC Fl}(hB:∀j c Y,B j c Y=(gF en x (.int j) Y).bind λ _ Y=>(gF en y c Y).bind λ _ Y=>bY ex body en Y) (hr:jq (lY e k l xs B 0 xs Y) (bY ex orelse en)≠.bad)
  (hQ:∀fl Y' f h' tk ρ',jq (lY e k l xs B 0 xs Y) (bY ex orelse en)=.ok fl Y'->C.Rep (ρ++ρ') h' Y'->vy (ρ++ρ') fl f->RR (.ok f) {s with heap:=h',toks:=tk}):
  f9 (model C.prog C.w) A (.forLoop (.Tuple [.Name x px,.Name y py] tk0 tp) (.ref ae) body orelse env) RR s:=by
 generalize hF:lY e k l xs B 0 xs Y=F at*;have hF0:F≠.bad:=let ⟨_,_,q⟩:=Fe hr;by rw[q];nofun
 refine codeAny_forLoop_any (agR C s ρ xs (akb e k l xs B F)) ?_ xs.length ⟨0,Y,[],s.heap,s.toks,rfl,by rw[aW];exact R,rfl,hF⟩;rintro n s' ⟨i,Y',ρ',h,tk,rfl,R',rfl,hf⟩;refine uq λ G toG=>?_
 have hae':(ρ++ρ')[e]?=some ae:=bK hae;induction hi:xs[i]? with
 |none=>
  simp only[cP (cU.mp hi)]at hf;obtain⟨⟨q1,q2,q3⟩,hb2⟩:=Nz (xu hf hF0);refine Ks (s:={s with heap:=h,toks:=tk}) R' q1 q2 q3 hae' λ ita la old cs g1 g2 hit g4 hl h2 _=>?_
  refine toG (abr hA g1 hit hl (by rw[fH,gw h2];exact cU.mp hi) λ hH hs hoi=>?_);refine uq λ G toG=>?_
  obtain⟨oi',hoi'⟩:=hoi;have hf:=hf.symm.trans hb2;rw[hf]at hr;refine toG (Cx.Snd.calm (iV exC orelse (s:={s with heap:=hH,toks:=tk}) (EV.mono _) (Rep.upd1 R' hk g2 hs hoi' trivial:C.Rep (ρ++ρ') hH (Y'.upd k .any))) (Gp hr).1 (Gp hr).2 λ fl σ₂ f hV tk2 ρ2 e6 RC hfl=>?_);rw[aj]at RC hfl;refine hQ fl σ₂ f hV tk2 (ρ'++ρ2) ?_ RC hfl;rw[hf];show(bY ex orelse en _).bindN _=_;rw[e6];rfl
 |some xv=>
  obtain⟨hil,hxe⟩:=aN.mp hi;simp only[eF hil,hxe]at hf;obtain⟨⟨q1,q2,q3⟩,fb,σb,hbody,hb2⟩:=Jv (xu hf hF0);have hf2:=hb2.symm.trans hf;rw[hB]at hbody;refine toG (Yu (s:={s with heap:=h,toks:=tk}) hA R' he hk q1 q2 q3 hae' hi λ c hW tk3 RE hv=>?_);have asg:=Ub (x:=x) (y:=y) (px:=px) (py:=py) (i:=i) (tk:=tk3) (s:={s with heap:=hW,toks:=tk3+1}) (EV.mono _) RE hv;refine uq λ G toG=>?_
  obtain⟨u,σs,hst,hbody⟩:=bind_some hbody;obtain⟨u2,σs2,hst2,hbody⟩:=bind_some hbody;simp only[hst,aC.bind_ok,hst2]at asg;refine toG (Cx.Snd.calm asg nofun nofun λ _ σs' _ hY tk4 ρ4 e6 RF _=>?_);simp only[<-(aC.ok.inj e6).2]at RF;refine Cx.Snd.calm (iV exC body (s:={s with heap:=hY,toks:=tk4}) ((EV.mono _).mono _) RF) (by rw[hbody];nofun) (by rw[hbody];nofun) λ fl YE f hX tk5 ρ5 e7 RH hfl=>?_
  have e8:=aC.ok.inj (hbody.symm.trans e7);rw[aj (ρ++ρ'),aj,<-e8.1]at hfl;rw[aj (ρ++ρ'),aj,<-e8.2]at RH;exact QK hQ hf2 RH hfl λ q=>⟨xs.length - (i+1),by omega,⟨i+1,_,_,hX,tk5,rfl,RH,rfl,q⟩⟩
theorem QR{i:Nat}{p:Nat×Nat×List V}(h:MT i Y=some p):Y.sto[i]?=some (.enum p.1 0):=by
 obtain⟨⟨k,j⟩,h1,h2⟩:=bk.mp h;obtain⟨o,h3,h4⟩:=bk.mp h1;obtain⟨rfl,h6⟩:=Gk h2;obtain⟨q,_,h7⟩:=bk.mp h6;obtain⟨_,h8⟩:=Gk h7;obtain⟨xs,_,rfl⟩:=bx.mp h8;exact h3.trans (by induction o<;>first|exact ns h4|(cases h4;rfl))
set_option tactic.hygienic true in
theorem abt{ev:Expr->En->St->aC V}(hev:Gn C A en env ev)(exC:ExS C A en env ex)(hA:A.handled=none){x y:Str}{px py tp:Pos}{tk0:Nat}{iter:Expr}{body orelse:List Stmt}{pos:Pos}(EV:dm C A ρ en env)(R:C.Rep ρ s.heap Y)(hs:wJ iter=false):
  C.Snd A (exec (.For (.Tuple [.Name x px,.Name y py] tk0 tp) iter body orelse pos) env) ρ ((ev iter en Y).bind (agI ex x y body orelse en)) vy s:=by
 rw[arm_exec_For];refine Cx.Snd.at ?_;refine Cx.Snd.bind' (hev iter EV R) λ v σ₁ c hH tk1 ρ1 RA hv=>?_
 rw[CZ hs,pure_bind];refine Cx.Snd.at ?_;refine .onS λ i e0=>.onS λ p e1=>.grd λ hc=>?_
 obtain⟨ae,hae,rfl⟩:=vD hv e0;simp only[bh,decide_eq_true_eq]at hc;intro hb;obtain⟨ce,g1,ita,old,g2,rfl⟩:=Mine.Rep.objs RA i _ ae (QR e1) hae;refine ak (cJ (wpAny_pyIter_enum (s:={s with heap:=hH,toks:=tk1}) g1 (wpAny_runOwn ?_)));refine QM (s:={s with heap:=hH,toks:=tk1}) exC hA (EV.mono _) RA hc.1.1.2 hc.1.2 hae (λ _ _ _=>rfl) hb λ fl Y' f h' tk ρ' e R' hf=>?_
 exact⟨fl,Y',h',tk,ρ',e,rfl,R',hf⟩
end
section
variable {C:Cx}{A:bJ}{ρ:List aR}{s:aD}{Y:St}{en:En}{env:Env}{h:cG}
theorem W3(I:rG ρ s.heap Y v it i){prog:cI}{w:eZ}{Q:ao->aD->Prop}{E:ao->aD->Prop}(h:Q (.ref it) s):bI (model prog w) A (pyIter (.ref it)) Q E s:=by
 induction I with
 |list _ _ I=>exact wpAny_pyIter_listiter I h
 |tup _ _ I=>exact wpAny_pyIter_tupleiter I h
 |dict _ _ I=>exact wpAny_pyIter_keyiter I h
 |rng _ I=>exact wpAny_pyIter_rangeiter I h
 |view _ _ _ I=>exact wpAny_pyIter_valiter I h
noncomputable def Cx.inn(C:Cx)(L':aR)(env:Env)(m:Str->Option ao):Cx:={C with L:=L',FS:=(env,m)::C.FS}
theorem Rep.enter(R:C.Rep ρ h Y){m m':Str->Option ao}{L':aR}{h':cG}{l:List (Str×Option V)}(hm:h.Ns C.L m)(hf:h.get? L'=none)(hk:Sub h h')(hn:h'.Ns L' m')(hl:xr ρ l m')(hL:env.locals=C.L)(hkind:env.scope.kind=.function):
  (C.inn L' env m).Rep ρ h' {Y with loc:=l}:=by
 have ap:=jb.new R hf;have J:C.Rep ρ h' Y:=Mine.Rep.junk R hk;refine⟨Mine.Rep.keep J,⟨m',hn,hl⟩,jt (λ b o e=>Mine.Rep.keep R b o e) hf,(Mine.Rep.len R:ρ.length=Y.sto.length),Mine.Rep.nodup R,ap.notIn,Mine.Rep.fresh R,λ i o a e e'=>Mine.Rep.objs J i o a e e',?_,Mine.Rep.sysIn R,Mine.Rep.sys R,?_⟩
 ·intro p hp;rcases bU.mp hp with rfl|hp
  ·exact⟨C.L,hL,hm.keeps hk,Mine.Rep.newL R,λ q=>ap.notL q.symm,Mine.Rep.notL R,hkind⟩
  ·obtain⟨a,y⟩:=Mine.Rep.callers J p hp;exact⟨a,y.frame,y.ns,y.new,λ q=>ap.notF p hp (y.frame.trans q),y.notIn,y.fn⟩
 ·show(env.locals::C.FS.map λ p=>p.1.locals).Nodup;refine fJ.mpr ⟨λ q=>?_,Mine.Rep.fsnd R⟩;obtain⟨p,hp,e⟩:=dD.mp q;obtain⟨a,y⟩:=Mine.Rep.callers R p hp;exact y.notL (y.frame.symm.trans (e.trans hL))
theorem Rep.leave{m:Str->Option ao}{L':aR}{h':cG}(R:(C.inn L' env m).Rep ρ h Y){l:List (Str×Option V)}(hl:xr ρ l m)(hL:env.locals=C.L)(hs:dO L' h h'):C.Rep ρ h' {Y with loc:=l}:=by
 obtain⟨a,y⟩:=Mine.Rep.callers R (env,m) (.head _);have ea:a=C.L:=by rw[<-y.frame];exact hL
 subst ea;refine⟨λ b o e=>(hs.2 b λ q=>?_).trans (Mine.Rep.keep R b o e),⟨m,y.ns.sameBut hs y.notL,hl⟩,y.new,(Mine.Rep.len R:ρ.length=Y.sto.length),Mine.Rep.nodup R,y.notIn,Mine.Rep.fresh R,λ i o b e e'=>?_,λ p hp=>?_,Mine.Rep.sysIn R,Mine.Rep.sys R,(fJ.mp (Mine.Rep.fsnd R)).2⟩
 ·have:=Mine.Rep.newL R;have this:C.h₀.get? L'=none:=this;rw[q,this]at e;contradiction
 ·obtain⟨co,x,z⟩:=Mine.Rep.objs R i o b e e';exact⟨co,(hs.2 b ((λ b hb q=>Mine.Rep.notL R (q▸hb):∀b,b∈ρ->b≠L') b (bG e'))).trans x,z⟩
 ·obtain⟨b,z⟩:=Mine.Rep.callers R p (.tail _ hp);refine⟨b,z.frame,z.ns.sameBut hs z.notL,z.new,λ q=>?_,z.notIn,z.fn⟩;have:=(fJ.mp (Mine.Rep.fsnd R)).1;exact this (dD.mpr ⟨p,hp,by show p.1.locals=env.locals;rw[z.frame,q,hL]⟩)
end
noncomputable def yw(d:Nat)(C:Cx):Prop:=Wf C/\d<=C.room
noncomputable def HEv(d:Nat)(ev:Expr->En->St->aC V):Prop:=∀(C:Cx) (A:bJ) (en:En) (env:Env),yw d C->Gn C A en env ev
noncomputable def HTe(d:Nat)(te:Expr->En->St->aC Bool):Prop:=∀(C:Cx) (A:bJ) (en:En) (env:Env),yw d C->TeS C A en env te
theorem Wf.on{C:Cx}(x:Wf C){g:cG}(hs:Sub C.h₀ g):Wf (C.on g):=let ⟨hb,f,k,f2⟩:=x;⟨hb,f,λ b o e=>hs b o (k b o e),f2⟩
theorem Wf.inn{C:Cx}(x:Wf C)(L':aR)(env:Env)(m:Str->Option ao):Wf (C.inn L' env m):=x
theorem yw.on{d:Nat}{C:Cx}(x:yw d C){g:cG}(hs:Sub C.h₀ g):yw d (C.on g):=⟨x.1.on hs,x.2⟩
theorem yw.inn{d:Nat}{C:Cx}(x:yw d C)(L':aR)(env:Env)(m:Str->Option ao):yw d (C.inn L' env m):=x
section
variable {C:Cx}{A:bJ}{ρ:List aR}{s:aD}{Y:St}{en:En}{env:Env}{h:cG}{te:Expr->En->St->aC Bool}{ev:Expr->En->St->aC V}
noncomputable abbrev vH(ifs:List Expr)(b:Bool)(env:Env):Sem Bool:=forIn ifs b λ c r=>if r=true then do let ok <-isTrue c env (eval c env);pure (ForInStep.yield ok)else pure (ForInStep.yield r)
theorem Yv(ifs:List Expr)(env:Env):vH ifs false env=pure false:=by
 induction ifs with
 |nil=>rfl
 |cons c r ih=>
  unfold vH at ih ⊢;rw[gW];exact ih
theorem afq(hte:TeS C A en env te):∀(ifs:List Expr) {ρ}{s:aD} {Y},dm C A ρ en env->C.Rep ρ s.heap Y->C.Snd A (vH ifs true env) ρ (MJ te .And ifs en Y) aa8 s:=by
 intro ifs;induction ifs with
 |nil=>exact λ EV R _=>aB (Cx.ret0 R rfl)
 |cons c r ih=>
  intro ρ s Y EV R;have e:vH (c::r) true env=(isTrue c env (eval c env) >>= λ ok=>vH r ok env):=by
   unfold vH;rw[gW];simp only[if_true,bind_assoc,pure_bind]
  rw[e];refine Cx.Snd.bind' (hte c EV R) λ t σ₂ b hV tk2 ρ2 RC ht=>?_
  subst ht;induction t with
  |true=>exact(ih (s:={s with heap:=hV,toks:=tk2}) (EV.mono _) RC)
  |false=>rw[Yv];exact λ _=>aB (Cx.ret0 RC rfl)
inductive abu(acc:Nat)(Y:St):Bool->V->St->Prop
 |list {ys:List V}{y:V}(e:Y.sto[acc]?=some (.list ys)) (hs:small ys.length=true):abu acc Y true y (Y.upd acc (.list (ys++[y])))
 |bset {bs:List Bool}{b:Bool}(e:Y.sto[acc]?=some (.bset bs)) (hs:bs=[]\/bs=[b]):abu acc Y false (.bool b) (Y.upd acc (.bset (if bs.contains b then bs else bs++[b])))
inductive abv(isl:Bool)(elt:St->aC V)(acc:Nat)(k:St->Prop)(σ₁:St):Bool->Prop
 |skip (h:k σ₁):abv isl elt acc k σ₁ false
 |put {y:V}{σ₂ Y3:St}(e:elt σ₁=.ok y σ₂) (hk:k0<=acc) (p:abu acc σ₂ isl y Y3) (h:k Y3):abv isl elt acc k σ₁ true
inductive akc(isl:Bool)(ifs:St->aC Bool)(elt:St->aC V)(acc:Nat)(k:St->Prop)(Y:St):Prop
 |mk (b:Bool) (σ₁:St) (e:ifs Y=.ok b σ₁) (h:abv isl elt acc k σ₁ b)
theorem Hq{α:Type}{b:Bool}{r F:aC α}(h:grd b r=F)(hF:F≠.bad):b=true/\r=F:=by
 induction b with
 |false=>exact absurd h.symm hF
 |true=>exact⟨rfl,h⟩
theorem Dc{α β:Type}{o:Option α}{k:α->aC β}{F:aC β}(h:onS o k=F)(hF:F≠.bad):∃a,o=some a/\k a=F:=by
 induction o with
 |none=>exact absurd h.symm hF
 |some a=>exact⟨a,rfl,h⟩
theorem Uc{isl:Bool}{ok:St->Bool}{x:Str}{ifs:St->aC Bool}{elt:St->aC V}{acc:Nat}{l:List V}{Y:St}{F:aC Unit}(h:lX isl ok x ifs elt acc l Y=F)(hF:F≠.bad):ok Y=true:=by
 induction l<;>exact(Hq h hF).1
theorem NK{isl:Bool}{ok:St->Bool}{x:Str}{ifs:St->aC Bool}{elt:St->aC V}{acc:Nat}{Y:St}{F:aC Unit}(h:lX isl ok x ifs elt acc [] Y=F)(hF:F≠.bad):F=.ok () Y:=(Hq h hF).2.symm
theorem afr{isl:Bool}{acc:Nat}{y:V}{Y:St}{o o':O}(e:Y.sto[acc]?=some o)(h:ahE isl y o=some o'):abu acc Y isl y (Y.upd acc o'):=by
 induction o with
 |list ys=>
  induction isl with
  |false=>exact ns h
  |true=>
   induction q:small ys.length with
   |false=>exact ns (h.symm.trans (if_neg (by rw[q];exact cY))).symm
   |true=>cases(if_pos (by rw[q];rfl)).symm.trans h;exact .list e q
 |bset bs=>
  obtain⟨b,hb,h⟩:=bk.mp h;clear h;induction y<;>first|exact ns hb|cases hb
  induction isl with
  |true=>exact ns h
  |false=>
   induction q:decide (bs=[]\/bs=[b])with
   |false=>exact ns (h.symm.trans (if_neg (by rw[q];exact cY))).symm
   |true=>cases(if_pos (by rw[q];rfl)).symm.trans h;exact .bset e (of_decide_eq_true q)
 |_=>exact ns h
theorem Yw{isl:Bool}{ok:St->Bool}{x:Str}{ifs:St->aC Bool}{elt:St->aC V}{acc:Nat}{v:V}{r:List V}{Y:St}{F:aC Unit}(h:lX isl ok x ifs elt acc (v::r) Y=F)(hF:F≠.bad):
  akc isl ifs elt acc (λ τ=>lX isl ok x ifs elt acc r τ=F) {Y with loc:=dH Y.loc x v}:=by
 have h:=(Hq h hF).2;obtain⟨b,σ₁,e1,e2⟩:=bindN_ok (xu h hF);replace h:=e2.symm.trans h;refine⟨b,σ₁,e1,?_⟩;clear e1 e2;induction b with
 |false=>exact .skip h
 |true=>
  obtain⟨y,σ₂,e3,e4⟩:=bindN_ok (xu h hF);obtain⟨o',e5,h⟩:=Dc (e4.symm.trans h) hF;obtain⟨o,e,q⟩:=bk.mp e5;obtain⟨hk,h⟩:=Hq h hF;exact .put e3 (of_decide_eq_true hk) (afr e q) h
theorem afs(led b:Bool):layNew (.fresh 0 0 led) #[] (hashInt (if b then 1 else 0)) (.bool b)=(#[(hashInt (if b then 1 else 0),.bool b)],(layNew (.fresh 0 0 led) #[] (hashInt (if b then 1 else 0)) (.bool b)).2.1,false,false):=by
 induction led<;>induction b<;>decide+kernel
theorem QS(led b:Bool):(layNew (.fresh 0 0 led) #[] (hashInt (if b then 1 else 0)) (.bool b)).2.1.fits 1=true:=by cases led<;>induction b<;>decide+kernel
theorem abw(led b:Bool):(layNew (.fresh 0 0 led) #[] (hashInt (if b then 1 else 0)) (.bool b)).2.1.tooFull=false:=by cases led<;>induction b<;>decide+kernel
theorem ajL(led b:Bool):(layNew (.fresh 0 0 led) #[] (hashInt (if b then 1 else 0)) (.bool b)).2.1.plain=true:=by cases led<;>induction b<;>decide+kernel
theorem Ff(b:Bool)(es:Array (Int×ao))(h:es=#[]\/∃k c,es=#[(k,.bool c)]):byScan (.bool b) es=true:=by
 rcases h with rfl|⟨k,c,rfl⟩<;>simp only[byScan,List.all_toArray]<;>rfl
theorem agS(b:Bool):hashByValue 8 (.bool b)=pure true:=rfl
theorem QT(R:C.Rep ρ s.heap Y){i:Nat}{a:aR}{bs:List Bool}{b:Bool}(e1:Y.sto[i]?=some (.bset bs))(ha:ρ[i]?=some a)(hs:bs=[]\/bs=[b])(hk:k0<=i):
  C.Snd A (call (.builtin "set.add") [.ref a,.bool b]) ρ (.ok V.none (Y.upd i (.bset (if bs.contains b then bs else bs++[b])))) VR s:=λ _=>by
 obtain⟨co,hco,d,hd,rfl⟩:=R.objs _ _ _ e1 ha;have key:bI (model C.prog C.w) A.in1 (setAddHashed a (.bool b) (hashInt (if b then 1 else 0))) (λ _ s'=>C.Ret ρ s (.ok V.none (Y.upd i (.bset (if bs.contains b then bs else bs++[b])))) VR .none s') (C.Exn ρ s (.ok V.none (Y.upd i (.bset (if bs.contains b then bs else bs++[b]))))) {s with toks:=s.toks+1}:=by
  rcases hs with rfl|rfl
  ·first|exact ns hd|exact qW hd|cases hd
   refine cJ (ak (kJ hco rfl rfl ?_));dsimp only;rw[Ff b _ (.inl rfl)];refine ak (ak (lz ?_));refine ak (aB ?_);rw[afs];dsimp only;refine ak (aB ?_);refine ak (aB ?_);rw[if_pos rfl];refine ak (wpAny_storeSet_of hco rfl ?_ (show(1:Nat)<=ig by decide));rw[abw];refine aB (aB (Cx.ret0 (R.upd hk ha (cB ..) (b8 _ hco ?_) ⟨_,rfl,?_⟩) rfl))
   ·rw[putSet_of _ _ rfl];rfl
   ·rw[putSet_of _ _ rfl]
  ·first|exact ns hd|exact qW hd|cases hd
   refine cJ (ak (kJ hco rfl (QS _ _) ?_));dsimp only;rw[Ff b _ (.inr ⟨_,_,rfl⟩)];refine ak (ak (lz ?_));show bI _ _ (setScanFrom a (.bool b) (hashInt (if b then 1 else 0)) true [(hashInt (if b then 1 else 0),.bool b)] 0 >>= _) _ _ _;unfold setScanFrom;rw[if_pos (by simp)];refine ak (ak (wpAny_setEpoch_of hco rfl (QS _ _) ?_));refine ak (Qu ?_);rw[decide_eq_true rfl];refine aB (aB (aB ?_));have:Y.upd i (.bset (if [b].contains b then [b]else [b]++[b]))=Y:=by
    simp only[List.contains_cons,BEq.rfl,Bool.true_or,if_true];obtain⟨hl,e⟩:=aN.mp e1;unfold St.upd;simp only[<-e,List.set_getElem_self hl]
   rw[this];exact Cx.ret0 R rfl
 refine d7 PySem.F.slot_set_add (⟨_,hco,rfl⟩) PySem.F.entry_set_add ?_ (PySem.F.args_set_add_2 _ _);unfold Builtin.«set.add» Builtin.Frozenset.oneOther;simp only[pN,bind_assoc];refine ak (aB ?_);refine ak (aB ?_);try dsimp only
 refine ak (cJ (ak (Qt (cO key (λ _ s' x=>?_) λ _ _ x=>x))));exact aB ⟨_,rfl,x⟩
end
section
variable {prog:cI}{w:eZ}{A:bJ}{E:ao->aD->Prop}{R:Result->aD->Prop}{s:aD}
noncomputable def Hr(prog:cI)(w:eZ)(A:bJ)(R:Result->aD->Prop)(em:String)(x:Str)(px:Pos)(ifs:List Expr)(elt:Expr)(it acc:ao)(env:Env)(I:Nat->aD->Prop):Prop:=
 ∀n s,I n s->bI (model prog w) A (pyNext it) (λ r sC=>match r with
   |none=>R (.ok .next) sC
   |some v=>bI (model prog w) A (assign (.Name x px) env v) (λ _ sA=>
     bI (model prog w) A (vH ifs true env) (λ ok s₃=>
      if ok=true then bI (model prog w) A (eval elt env) (λ x sD=>
       bI (model prog w) A (call (.builtin em) [acc,x]) (λ _ sF=>∃m,m < n/\I m sF) (notedBy (model prog w) A env λ e s'=>R (.error e) s') sD) (notedBy (model prog w) A env λ e s'=>R (.error e) s') s₃
      else ∃m,m < n/\I m s₃) (notedBy (model prog w) A env λ e s'=>R (.error e) s') sA) (notedBy (model prog w) A env λ e s'=>R (.error e) s') sC) (notedBy (model prog w) A env λ e s'=>R (.error e) s') s
theorem NP(elt target iter:Expr)(ifs:List Expr)(scope:Scope)(pos:Pos)(it acc:ao)(env:Env):
  compTurn (.SetComp elt [⟨target,iter,ifs,0⟩] scope pos) 0 it acc env=(do
   standAt iter.pos
   match <-pyNext it with
   |none=>pure (.done .next)
   |some v=>
    letOwnedTupleGo target it v
    assign target env v
    let mut ok:=true
    for c in ifs do
     if ok then ok <-isTrue c env (eval c env)
    if ok then
     (do let v <-eval elt env;standAt elt.pos;let _ <-call (.builtin "set.add") [acc,v])
    again (.compLoop (.SetComp elt [⟨target,iter,ifs,0⟩] scope pos) 0 it acc env)):=by rfl
theorem zf{x:Str}{px:Pos}{elt iter:Expr}{ifs:List Expr}{scope:Scope}{pos:Pos}{it acc:ao}{env:Env}{I:Nat->aD->Prop}(turn:Hr prog w A R "list.append" x px ifs elt it acc env I)
  {n:Nat}(h:I n s):f9 (model prog w) A (.compLoop (.ListComp elt [⟨.Name x px,iter,ifs,0⟩] scope pos) 0 it acc env) R s:=
 codeAny_compLoop_tests I turn n h
theorem Aw{x:Str}{px:Pos}{elt iter:Expr}{ifs:List Expr}{scope:Scope}{pos:Pos}{it acc:ao}{env:Env}{I:Nat->aD->Prop}(turn:Hr prog w A R "set.add" x px ifs elt it acc env I)
  {n:Nat}(h:I n s):f9 (model prog w) A (.compLoop (.SetComp elt [⟨.Name x px,iter,ifs,0⟩] scope pos) 0 it acc env) R s:=by
 refine codeAny_loop rfl I (λ n s hI=>?_) n h;show bI _ A ((compTurn (.SetComp elt [⟨.Name x px,iter,ifs,0⟩] scope pos) 0 it acc env).onRaise (λ x=>do noteFrame x env;theTreesLotGoes x)) _ _ s;refine wpAny_noted ?_;rw[NP];refine ak (mz (ak (cO (turn n s hI) (λ r sC hH=>?_) λ _ _ h'=>h')));induction r with
 |none=>exact aB hH
 |some v=>
  refine ak (nO (a:=()) rfl ?_);refine ak (cO hH (λ _ sA hV=>ak (cO hV (λ ok s₃ hW=>?_) λ _ _ h'=>h')) λ _ _ h'=>h');induction ok with
  |false=>exact aB ⟨rfl,hW⟩
  |true=>
   exact ak (ak (cO hW (λ x sD hY=>ak (mz (ak (cO hY (λ _ sF hX=>aB (aB ⟨rfl,hX⟩)) λ _ _ h'=>h')))) λ _ _ h'=>h'))
theorem Jw{elt target iter ifs rest scope pos it acc env}
  (h0:f9 (model prog w) A (.compLoop (.SetComp elt (⟨target,iter,ifs,0⟩::rest) scope pos) 0 it acc env) R s)
  (h:bI (model prog w) A (pyIter it) (λ it' s'=>f9 (model prog w) A (.compLoop (.SetComp elt (⟨target,iter,ifs,0⟩::rest) scope pos) 0 it' acc env) R s')
   (notedBy (model prog w) A env λ x s'=>R (.error x) s') s):
  f9 (model prog w) A (.compStart (.SetComp elt (⟨target,iter,ifs,0⟩::rest) scope pos) 0 it acc env) R s:=by
 refine xj ?_;refine wpAny_notedAt ?_;refine ak (iY (wpAny_ite ?_));split
 ·first
   |exact ak (aB (aB (And.intro rfl h0)))
   |exact aB (And.intro rfl h0)
 ·first
   |exact ak (lz (ak (mz (ak (cO h (λ it' s' h'=>aB (And.intro rfl h')) λ _ _ x=>x)))))
   |(refine ak (lz ?_);show bI _ _ (standAt iter.pos >>= _) _ _ s;exact ak (mz (ak (cO h (λ it' s' h'=>aB (And.intro rfl h')) λ _ _ x=>x))))
end
section
variable {d:Nat}{C:Cx}{A:bJ}{ρ:List aR}{s:aD}{Y:St}{en:En}{env:Env}{h:cG}{te:Expr->En->St->aC Bool}{ev:Expr->En->St->aC V}
structure abx(C:Cx)(ρ ρ1:List aR)(σ₁:St)(v:V)(it:aR)(kacc:Nat)(s:aD)(Y:St):Prop where
 rep:C.Rep ρ s.heap Y
 iter:rG ρ1 s.heap σ₁ v it 0
 apart:jb C ρ it
 none:C.h₀.get? it=none
 stat:k0<=ρ.length
 pre:∃ρ',ρ=ρ1++ρ'
noncomputable def agT(isl:Bool)(ok:St->Bool)(x:Str)(G:St->aC Bool)(el:St->aC V)(k:Nat)(F:aC Unit)(r:List V)(Y:St):Prop:=ok Y=true/\lX isl ok x G el k r Y=F
theorem Hs{isl:Bool}{ok:St->Bool}{x:Str}{G:St->aC Bool}{el:St->aC V}{k:Nat}{F:aC Unit}{r:List V}{Y:St}(e:lX isl ok x G el k r Y=F)(hF:F≠.bad):agT isl ok x G el k F r Y:=⟨Uc e hF,e⟩
set_option tactic.hygienic true in
theorem aby{C:Cx}{s:aD}{isl:Bool}{k:Nat}{a:aR}{y:V}{YA YE:St}{cy:ao}(R:C.Rep ρ s.heap YA)(ha:ρ[k]?=some a)(hk:k0<=k)(hy:VR ρ y cy)(p:abu k YA isl y YE){Q:ao->aD->Prop}{E:ao->aD->Prop}
  (hQ:∀c h tk ρ',C.Rep (ρ++ρ') h YE->Q c {s with heap:=h,toks:=tk}):bI (model C.prog C.w) A (call (.builtin (if isl then "list.append" else "set.add")) [.ref a,cy]) Q E s:=by
 induction p with
 |list e9 hsm=>
  rename_i ys y
  have em:gH .append (.ref k) [y] YA=.ok .none (YA.upd k (.list (ys++[y]))):=by
   exact(gD e9).trans ((if_pos (decide_eq_true ⟨rfl,hsm⟩)).trans (if_pos hk))
  have ap:=Kh (A:=A) R (m:=.append) (ov:=.ref k) (vs:=[y]) ⟨a,ha,rfl⟩ (.cons hy .nil);rw[em]at ap;refine Cx.Snd.calm ap nofun nofun λ _ YI c hX tk5 ρ5 e11 RH _=>hQ c hX tk5 ρ5 ?_
  simp only[(aC.ok.inj e11).2];exact RH
 |bset e9 hsm=>
  subst hy;refine Cx.Snd.calm (QT (A:=A) R e9 ha hsm hk) nofun nofun λ _ YI c hX tk5 ρ5 e11 RH _=>hQ c hX tk5 ρ5 ?_
  rw[(aC.ok.inj e11).2];exact RH
set_option tactic.hygienic true in
theorem QV(hte:HTe d te)(hev:HEv d ev)(W:yw d C)(hA:A.handled=none){isl:Bool}{x:Str}{px:Pos}{elt:Expr}{ifs:List Expr}(EV:dm C A ρ en env){v:V}{xs:List V}{it aacc:aR}{kacc:Nat}{ρ1:List aR}{σ₁:St}
  (T:abx C ρ ρ1 σ₁ v it kacc s Y) (hx:fD v σ₁=some xs) (hacc:ρ[kacc]?=some aacc) {RR:Result->aD->Prop}
  (hnm:en.scope.names.lookup x=some .local)
  (hr:lX isl (cW v σ₁) x (MJ te .And ifs en) (ev elt en) kacc xs Y≠.bad)
  (hQ:∀Y' h' tk ρ',lX isl (cW v σ₁) x (MJ te .And ifs en) (ev elt en) kacc xs Y=.ok () Y'->C.Rep (ρ++ρ') h' Y'->RR (.ok .next) {s with heap:=h',toks:=tk}):
  ∃I:Nat->aD->Prop,Hr C.prog C.w A RR (if isl then "list.append" else "set.add") x px ifs elt (.ref it) (.ref aacc) env I/\I xs.length s:=by
 obtain⟨ρ0,rfl⟩:=T.pre;obtain⟨kv,rfl⟩:=CX hx;generalize hL:ev elt en=el at*;generalize hG:MJ te .And ifs en=G at*;generalize hF:lX isl (cW (.ref kv) σ₁) x G el kacc xs Y=F at*;refine⟨xN C s (ρ1++ρ0) σ₁ kv it xs (agT isl (cW (.ref kv) σ₁) x G el kacc F),?_,xN.start T.rep T.iter T.apart (Hs hF hr) (Ho kv σ₁)⟩;intro n s' L;refine L.next hx T.none T.stat hA (λ _ _ q=>q.1) (λ Y' ρ' h tk hf R'=>hQ Y' h tk ρ' (NK hf.2 hr) R') λ xv r g c Y' ρ' h tk hf g1 Rg hc hz=>uq λ G' toG=>?_
 obtain⟨b,σ₂,hifs,hb⟩:=Yw hf.2 hr;have Wg:=W.on g1;have hst:gF en x xv Y'=.ok () {Y' with loc:=dH Y'.loc x xv}:=by
  unfold gF;rw[hnm]
 have asg:(C.on g).Snd A (assign (.Name x px) env c) ((ρ1++ρ0)++ρ') (gF en x xv Y') rB {s with heap:=h,toks:=tk}:=by
  exact Cx.Snd.at (jr (EV.on.mono _) Rg x hc)
 simp only[hst]at asg;refine toG (Cx.Snd.calm (C:=C.on g) asg nofun nofun λ _ σs' _ hV tk2 ρ2 e6 RC _=>?_);rw[<-(aC.ok.inj e6).2]at RC;have sif:=afq (hte (C.on g) A en env Wg) ifs (s:={s with heap:=hV,toks:=tk2}) ((EV.on.mono _).mono _) RC;simp only[hG,hifs]at sif;refine Cx.Snd.calm (C:=C.on g) sif nofun nofun λ bb Y3 b' hW tk3 ρ3 e7 RE hbb=>uq λ G' toG=>?_
 simp only[<-(aC.ok.inj e7).2]at RE;simp only[<-show bb=b' from hbb,<-(aC.ok.inj e7).1]at toG;clear hifs sif e7;induction hb with
 |skip hb=>
  rw[aj (_++ρ')]at RE;exact toG ((hz σ₂ hW tk3 (ρ2++ρ3) RE).2 (Hs hb hr))
 |put he hk p hb=>
  have sel:=hev (C.on g) A en env Wg elt (s:={s with heap:=hW,toks:=tk3}) (((EV.on.mono _).mono _).mono _) RE;simp only[hL,he]at sel;refine toG (Cx.Snd.calm (C:=C.on g) sel nofun nofun λ yv YE cy hY tk4 ρ4 e8 RF hy=>?_);rw[<-(aC.ok.inj e8).2]at RF;rw[<-(aC.ok.inj e8).1]at hy;refine aby (C:=C.on g) (s:={s with heap:=hY,toks:=tk4}) RF (bK (bK (bK (bK hacc)))) hk hy p λ _ hX tk5 ρ5 RH=>?_
  rw[aj (((_++ρ')++ρ2)++ρ3),aj ((_++ρ')++ρ2),aj (_++ρ')]at RH;exact(hz _ hX tk5 _ RH).2 (Hs hb hr)
end
noncomputable def CR(ρ:List aR)(p:Str×Nat)(q:Str×aR):Prop:=p.1=q.1/\ρ[p.2]?=some q.2
theorem cX.reverse{α β:Type}{R:α->β->Prop}{as:List α}{bs:List β}(h:cX R as bs):cX R as.reverse bs.reverse:=by
 induction h with
 |nil=>exact .nil
 |cons h _ ih=>rw[tL,tL];exact ih.append (.cons h .nil)
theorem Yx{ρ:List aR}{cs:List (Str×Nat)}{cl:List (Str×aR)}(h:cX (CR ρ) cs cl){x:Str}{k:Nat}(e:cs.lookup x=some k):∃a,cl.lookup x=some a/\ρ[k]?=some a:=by
 induction h with
 |nil=>first|exact ns e|exact qW e|induction e
 |@cons p q as bs h1 h2 ih=>
  obtain⟨y,n⟩:=p;obtain⟨z,a⟩:=q;obtain⟨e1,e2⟩:=h1;dsimp only at e1 e2;subst e1;by_cases hx:x=y
  ·subst hx;simp only[dG,beq_self_eq_true]at e ⊢;cases e;exact⟨a,rfl,e2⟩
  ·have:(x==y)=false:=by simpa using hx
   simp only[dG,this]at e ⊢;exact ih e
section
variable {C:Cx}{A:bJ}{ρ:List aR}{s:aD}{Y:St}{en:En}{env:Env}{h:cG}{te:Expr->En->St->aC Bool}{ev:Expr->En->St->aC V}
theorem NQ{f:Str×NameKind->Option (Str×Nat)}{g:Str×NameKind->List (Str×aR)->Sem (ForInStep (List (Str×aR)))}(h1:∀p r,(p.2== .free)=false->g p r=pure (.yield r))(h2:∀p r c,(p.2== .free)=true->f p=some c->∃a,g p r=pure (.yield ((p.1,a)::r))/\CR ρ c (p.1,a))(names:List (Str×NameKind)):
  ∀(cs:List (Str×Nat)) (acc:List (Str×aR)),(names.filter λ p=>p.2== .free).mapM f=some cs->∃cl,forIn names acc g=pure (cl.reverse++acc)/\cX (CR ρ) cs cl:=by
 induction names with
 |nil=>
  intro cs acc e;cases e;exact⟨[],rfl,.nil⟩
 |cons p r ih=>
  intro cs acc e;rw[gW];induction hk:p.2== .free with
  |true=>
   rw[gB,if_pos hk,List.mapM_cons]at e;obtain⟨c,e1,e⟩:=bk.mp e;obtain⟨a,h3,h4⟩:=h2 p acc c hk e1;obtain⟨cs',e2,e⟩:=bk.mp e;cases e;obtain⟨cl,h5,h6⟩:=ih cs' ((p.1,a)::acc) e2;refine⟨(p.1,a)::cl,?_,.cons h4 h6⟩;rw[h3];refine h5.trans ?_;rw[tL,aj];rfl
  |false=>
   rw[gB,if_neg (by rw[hk];exact cY)]at e;obtain⟨cl,h5,h6⟩:=ih cs acc e;refine⟨cl,?_,h6⟩;rw[h1 p acc hk];exact h5
theorem Ud(EV:dm C A ρ en env)(names:List (Str×NameKind))(cs:List (Str×Nat))(acc:List (Str×aR))
  (e:((names.filter λ p=>p.2== .free).mapM λ p=>if en.scope.names.lookup p.1==some .cell then(en.cells.lookup p.1).map (p.1,·)else none)=some cs):
  ∃cl,(forIn names acc λ(p:Str×NameKind) (r:List (Str×aR))=>(if(p.2== .free)=true then do let a <-cellOf env p.1;pure (ForInStep.yield ((p.1,a)::r))else pure (ForInStep.yield r):Sem (ForInStep (List (Str×aR)))))=pure (cl.reverse++acc)/\cX (CR ρ) cs cl:=by
 refine NQ (λ p r h=>if_neg (by rw[h];exact cY)) (λ p r c h e=>?_) names cs acc e;induction hc:en.scope.names.lookup p.1==some .cell with
 |false=>rw[hc]at e;contradiction
 |true=>
  rw[hc]at e;obtain⟨k,hl,rfl⟩:=bx.mp e;obtain⟨a,q1,q2⟩:=EV.cells _ _ hl;refine⟨a,(if_pos h).trans ?_,rfl,q2⟩;rw[show cellOf env p.1=pure a by unfold cellOf;rw[q1],pure_bind]
inductive akd(env:Env)(scope:Scope)(en cen:En)(ρ:List aR):Prop
 |mk (cl:List (Str×aR)) (h1:closureFor scope env=pure cl) (h2:scope.kind=.function) (h3:∀x∈scope.names,x.2=.local->scope.names.lookup x.1=some .local) (h4:∀x∈scope.names,x.2≠.cell)
  (h5:relabel scope env=cen.scope) (h6:cen.free=en.free) (h7:cen.own=false) (h8:∀x k,cen.cells.lookup x=some k->∃a,cl.lookup x=some a/\ρ[k]?=some a)
set_option tactic.hygienic true in
theorem NT(EV:dm C A ρ en env){scope:Scope}{cen:En}(h:GX en scope=some cen):akd env scope en cen ρ:=by
 unfold GX at h;split at h
 ·rename_i hc
  simp only[bh,beq_iff_eq,eX,Bool.or_eq_true,bne_iff_ne,ne_eq]at hc;obtain⟨hkind,hall⟩:=hc;induction hcs:J7 en scope with
  |none=>rw[hcs]at h;contradiction
  |some cs=>
   rw[hcs]at h;obtain⟨cl,h1,h2⟩:=Ud EV scope.names cs [] hcs;cases h;refine⟨cl.reverse,?_,hkind,λ x hx hl=>?_,λ x hx=>(hall x hx).1,?_,rfl,rfl,λ x k e=>Yx h2.reverse e⟩
   ·simp only[aW]at h1;refine(congrArg (λ t=>t >>= λ r=>pure r) h1).trans ?_;rw[pure_bind]
   ·rcases(hall x hx).2 with q|q
    ·exact absurd hl q
    ·exact q
   ·dsimp only[relabel,J6];rw[EV.kind,EV.scope.symm];simp[Env.kindOf]
 ·first|exact ns h|exact qW h|cases h
end
section
variable {d:Nat}{C:Cx}{A:bJ}{ρ:List aR}{s:aD}{Y:St}{en:En}{env:Env}{h:cG}{te:Expr->En->St->aC Bool}{ev:Expr->En->St->aC V}
noncomputable def xO(isl:Bool)(elt:Expr)(gens:List Comprehension)(scope:Scope)(pos:Pos):Expr:=if isl then .ListComp elt gens scope pos else .SetComp elt gens scope pos
noncomputable def Ht(isl:Bool):Sem ao:=if isl then newList []else newSet (.type "set")
theorem Yy{prog:cI}{w:eZ}{isl:Bool}{Q:ao->aD->Prop}{E:ao->aD->Prop}(h:∀co:Obj,co.isFreed=false->(∀ρ,OR prog w ρ (CP isl) co)->Q (.ref s.heap.objs.size) {s with heap:=s.heap.push co}):bI (model prog w) A (Ht isl) Q E s:=by
 induction isl with
 |true=>
  refine wpAny_newList (h {cls:=.type "list",data:=.seq #[]} rfl λ ρ=>⟨#[],0,rfl,.nil⟩) (by decide)
 |false=>
  refine ak (ak (iY (aB ?_)));exact ak (wpAny_alloc (aB (h {cls:=.type "set",dict:=none,data:=.set #[] 0 (.fresh 0 0 (aj2 w))} rfl λ ρ=>⟨_,rfl,rfl⟩)))
inductive ake(isl:Bool)(te:Expr->En->St->aC Bool)(ev:Expr->En->St->aC V)(x:Str)(iter elt:Expr)(ifs:List Expr)(scope:Scope)(en:En)(v:V)(Y:St)(r:aC V):Prop
 |mk (cen:En) (xs:List V) (Y':St) (hc:GX en scope=some cen) (hf:en.free=true) (hs:wJ iter=false) (hn:cen.scope.names.lookup x=some .local) (hx:fD v Y=some xs)
  (hr:lX isl (cW v Y) x (MJ te .And ifs cen) (ev elt cen) Y.sto.length xs {loc:=[],sto:=Y.sto++[CP isl]}=.ok () Y') (e:r=.ok (.ref Y.sto.length) {loc:=Y.loc,sto:=Y'.sto})
theorem QW{isl:Bool}{x:Str}{iter elt:Expr}{ifs:List Expr}{scope:Scope}{v:V}(hr:sZ isl te ev x iter elt ifs scope en v Y≠.bad):ake isl te ev x iter elt ifs scope en v Y (sZ isl te ev x iter elt ifs scope en v Y):=by
 unfold sZ at hr ⊢;induction hc:GX en scope with
 |none=>rw[hc]at hr;exact absurd rfl hr
 |some cen=>
  rw[hc]at hr;dsimp only at hr ⊢;by_cases hd:(en.free&&!wJ iter&&(cen.scope.names.lookup x==some .local))=true
  ·rw[if_pos hd]at hr ⊢;simp only[bh,kE,beq_iff_eq]at hd;unfold kh at hr ⊢;induction hx:fD v Y with
   |none=>rw[hx]at hr;exact absurd rfl hr
   |some xs=>
    rw[hx]at hr;obtain⟨u,Y',h1,h2⟩:=bindN_ok hr;exact⟨cen,xs,Y',hc,hd.1.1,hd.1.2,hd.2,hx,h1,h2⟩
  ·rw[if_neg hd]at hr;exact absurd rfl hr
theorem QX{v:V}{xs:List V}(hx:fD v Y=some xs):cW v Y Y=true:=by
 obtain⟨kv,rfl⟩:=CX hx;exact rH.mpr ⟨rfl,λ _ _=>rfl⟩
theorem Ue{s₃:aD}{hH hV:cG}{isl:Bool}{co:Obj}{it:aR}{v:V}{xs:List V}{m':Str->Option ao}(EV:dm C A ρ en env)(R:C.Rep ρ hH Y)(hnone:hH.get? it=none)(hsub:Sub hH hV)(I:rG ρ hV Y v it 0)(hx:fD v Y=some xs)
  (hfz:co.isFreed=false) (hco:∀ρ,OR C.prog C.w ρ (CP isl) co) (hns:s₃.heap.Ns (hV.push co).objs.size m') (hsub3:Sub (hV.push co) s₃.heap):
  ∃m,xr ρ Y.loc m/\abx (C.inn (hV.push co).objs.size env m) (ρ++[hV.objs.size]) ρ Y v it Y.sto.length s₃ {loc:=[],sto:=Y.sto++[CP isl]}:=by
 have RC:C.Rep ρ hV Y:=Mine.Rep.junk R hsub;have RE:C.Rep (ρ++[hV.objs.size]) (hV.push co) {Y with sto:=Y.sto++[CP isl]}:=Cx.Rep.new1 (s:={s₃ with heap:=hV}) RC hfz (hco _);have hnoneL:(hV.push co).get? (hV.push co).objs.size=none:=dg (bV _);obtain⟨m,hm,hml⟩:=Mine.Rep.loc RC;obtain⟨oit,hoit⟩:=I.obj;have hoit2:=bB co hoit;have apC:=jb.new R hnone;refine⟨m,hml,Rep.enter RE (hm.keeps λ b o e=>bB _ e) hnoneL hsub3 hns (λ y u e=>by contradiction) EV.locals EV.kind,by simpa using I.move (ρ':=[]) hoit (hsub3 _ _ hoit2) (QX hx),⟨λ q=>?_,λ q=>?_,bO.mpr ⟨λ q=>apC.notL (q.symm.trans EV.locals),apC.notF⟩⟩,jt (λ b o e=>Mine.Rep.keep R b o e) hnone,by have:=EV.stat;simp;exact cQ (by assumption),⟨_,rfl⟩⟩
 ·rcases aM.mp q with q|q
  ·exact apC.notIn q
  ·rw[aJ.mp q,(dg (bV _))]at hoit;contradiction
 ·have q:it=(hV.push co).objs.size:=q;rw[q,hnoneL]at hoit2;contradiction
theorem aft(EV:dm C A ρ en env){scope:Scope}{cen:En}{cl:List (Str×aR)}{L' D:aR}{m:Str->Option ao}(hf:en.free=true)(hkind:scope.kind=.function)(hrel:relabel scope env=cen.scope)(hown:cen.own=false)(hcl:∀x k,cen.cells.lookup x=some k->∃a,cl.lookup x=some a/\ρ[k]?=some a):
  dm (C.inn L' env m) A (ρ++[D]) cen {newEnv scope L' env.globals cl env.qual none Value.none (some env) iG with scope:=relabel scope env}:=
 ⟨hrel,hkind,rfl,EV.globals,EV.builtins,λ y k e=>let ⟨a,q1,q2⟩:=hcl y k e;⟨a,q1,bK q2⟩,λ _=>EV.free hf,EV.units,EV.room,bK EV.files,by have:=EV.stat;simp;exact cQ (by assumption),λ q=>by rw[hown]at q;cases q⟩
theorem Ku(hte:HTe d te)(hev:HEv d ev)(W:yw d C){isl:Bool}{x:Str}{px:Pos}{iter elt:Expr}{ifs:List Expr}{scope:Scope}{pos ps:Pos}(EV:dm C A ρ en env)(R:C.Rep ρ s.heap Y){use:Option (ao->Sem Unit)}{Q:ao->aD->Prop}{E:ao->aD->Prop}
  (hr:(ev iter en Y).bind (sZ isl te ev x iter elt ifs scope en)≠.bad)
  (hE:∀e s',C.Exn ρ s (ev iter en Y) e s'->E e s')
  (hfin:∀(v:V) (σ₁:St) (ρ1:List aR) (L' D:aR) (m:Str->Option ao) (Y':St) (h':cG) (tk:Nat) (ρ':List aR),ev iter en Y=.ok v σ₁->sZ isl te ev x iter elt ifs scope en v σ₁=.ok (.ref σ₁.sto.length) {loc:=σ₁.loc,sto:=Y'.sto}->
   (C.inn L' env m).Rep (ρ++ρ1++[D]++ρ') h' Y'->xr (ρ++ρ1++[D]++ρ') σ₁.loc m->VR (ρ++ρ1++[D]++ρ') (.ref σ₁.sto.length) (.ref D)->
   compPost (model C.prog C.w) A E use Q (.ref D) L' (.ok .next) {s with heap:=h',toks:=tk}):
  bI (model C.prog C.w) A (comprehension (xO isl elt [⟨.Name x px,iter,ifs,0⟩] scope pos) scope env ps (Ht isl) false (eval iter env) use) Q E s:=by
 refine uq λ G toG=>?_
 have hi:=hev C A en env W iter EV R;generalize ev iter en Y=r0 at hr hi hE hfin;induction r0 with
 |bad=>exact absurd rfl hr
 |exc y σ₁=>
  exact toG<|ak (cO (hi nofun) (λ b s' ⟨a,Y',h',tk,ρ',e,_,_,_⟩=>nomatch e) λ e s' he=>hE e s' he)
 |ok v σ₁=>
  obtain⟨cen,xs,Y',hcen,hfree,hset,hnm,hx,hcomp,hres⟩:=QW hr;obtain⟨cl,hclos,hkind,hnames,hcell,hrel,hfr,hown,hcl⟩:=NT EV hcen;refine toG<|wpAny_comprehension_free (g:=⟨.Name x px,iter,ifs,0⟩) (gs:=[]) (cl:=cl) (by clear toG hr hfin hcomp hres;induction isl<;>rfl) (λ y=>CZ hset env y) hclos hkind hnames (hi.told rfl λ c hH tk1 ρ1 RA hv=>?_)
  refine W0 (s:={s with heap:=hH,toks:=tk1}) RA hv hx λ it hV hnone hsub I=>Yy λ co hfz hco=>wpAny_newFunctionEnv hcell (by intro y hy;simp at hy) (λ hW hns hsb=>uq λ G toG=>?_) hkind
  have EV1:dm C A (ρ++ρ1) en env:=EV.mono ρ1;obtain⟨m,hml,T⟩:=Ue (s₃:={s with heap:=hW,toks:=tk1}) EV1 RA hnone hsub I hx hfz hco hns λ b o e=>hsb.extBut b o (λ q=>by rw[q,show(hV.push co).get? (hV.push co).objs.size=none from dg (bV _)]at e;contradiction) (bB _ e)
  have hkacc:(ρ++ρ1++[hV.objs.size])[σ₁.sto.length]?=some hV.objs.size:=by rw[<-(Mine.Rep.len RA)];simp
  obtain⟨J,turn,hJ⟩:=QV (RR:=compPost (model C.prog C.w) A E use Q (.ref hV.objs.size) (hV.push co).objs.size) hte hev (W.inn _ env m) (EV.free hfree) (isl:=isl) (x:=x) (px:=px) (elt:=elt) (ifs:=ifs) (aft EV1 hfree hkind hrel hown λ y k e=>let ⟨a,b,c⟩:=hcl y k e;⟨a,b,bK c⟩) T hx hkacc hnm (by rw[hcomp];nofun) (λ Y'' h' tk ρ' e6 R'=>by
    obtain⟨_,rfl⟩:=aC.ok.inj (hcomp.symm.trans e6);exact hfin v σ₁ ρ1 _ _ m Y' h' tk ρ' rfl hres R' hml.mono.mono ⟨_,bK hkacc,rfl⟩)
  induction isl with
  |true=>exact toG<|codeAny_compStart_list (zf turn hJ) (W3 T.iter (zf turn hJ))
  |false=>exact toG<|Jw (Aw turn hJ) (W3 T.iter (Aw turn hJ))
set_option tactic.hygienic true in
theorem Yz(hte:HTe d te)(hev:HEv d ev)(W:yw d C){cl:Nat->List V->St->aC V}:agO C A en env cl ev te:=by
 intro elt gens scope p ρ s Y EV R;have key:∀isl,C.Snd A (eval (xO isl elt gens scope p) env) ρ (Es isl ev te elt gens scope en Y) VR s:=by
  intro isl;unfold Es;split
  ·rename_i x iter ifs hg
   obtain⟨px,rfl⟩:=Qp hg;have main:∀ps,C.Snd A (comprehension (xO isl elt [⟨.Name x px,iter,ifs,0⟩] scope p) scope env ps (Ht isl) false (eval iter env) none) ρ ((ev iter en Y).bind (sZ isl te ev x iter elt ifs scope en)) VR s:=by
    intro ps hb;refine Ku hte hev W EV R hb ?_ ?_
    ·rintro e s' ⟨x',Y',h',tk,ρ',e1,e2,e3⟩;exact⟨x',Y',h',tk,ρ',by rw[e1];rfl,e2,e3⟩
    ·intro v σ₁ ρ1 L' D m Y' h' tk ρ' e1 e2 R' hl hv;obtain⟨mi,hmi,_⟩:=Mine.Rep.loc R';refine⟨mi,hmi,λ h'' hs=>⟨.ref σ₁.sto.length,{loc:=σ₁.loc,sto:=Y'.sto},h'',tk,ρ1++[D]++ρ',?_,rfl,?_,?_⟩⟩
     ·rw[e1];exact e2
     ·have:=Rep.leave R' hl EV.locals hs;simpa only[aj]using this
     ·simpa only[aj]using hv
   induction isl
   ·exact main _
   ·exact main _
  ·exact .of_bad
 exact⟨key true,key false⟩
end
noncomputable def HEx(d:Nat)(ex:Stmt->En->St->aC Fl):Prop:=∀(C:Cx) (A:bJ) (en:En) (env:Env),yw d C->ExS C A en env ex
noncomputable def zN(d:Nat)(cl:Nat->List V->St->aC V):Prop:=∀(C:Cx) (A:bJ) (en:En) (env:Env),yw d C->Ops C A en env cl
theorem vI{d:Nat}{cl:Nat->List V->St->aC V}(hO:zN d cl):∀n,HEv d (jj cl n)/\HTe d (Et cl n)
 |0=>⟨λ _ _ _ _ _ _ _ _ _ _ _=>.of_bad,λ _ _ _ _ _ _ _ _ _ _ _=>.of_bad⟩
 |n+1=>by
  obtain⟨h1,h2⟩:=vI hO n;exact⟨λ C A en env W=>Yl (hO C A en env W) (h1 C A en env W) (h2 C A en env W) (Yz h2 h1 W),λ C A en env W=>Ym (h1 C A en env W) (h2 C A en env W)⟩
section
variable {d:Nat}{C:Cx}{A:bJ}{ρ:List aR}{s:aD}{Y:St}{en:En}{env:Env}{cl:Nat->List V->St->aC V}{n:Nat}{ex:Stmt->En->St->aC Fl}
theorem wK{t:Expr}(h:∀e p,t≠.Starred e p)(rest:List Expr)(env:Env):assignEach (t::rest) env=(false,assign t env)::assignEach rest env:=by
 induction t using PySem.Expr.casesOn<;>first|rfl|exact absurd rfl (h _ _)
theorem Jx(O:Ops C A en env cl)(hev:Gn C A en env (jj cl n)):∀(ts:List Expr) {ρ}{s:aD} {Y}{v:V}{c:ao},dm C A ρ en env->C.Rep ρ s.heap Y->VR ρ v c->
  C.Snd A (assignAll c ((assignEach ts env).map (·.2))) ρ (nW cl n ts v en Y) rB s:=by
 intro ts;induction ts with
 |nil=>exact λ EV R hv _=>aB (Cx.ret0 R trivial)
 |cons t r ih=>
  intro ρ s Y v c EV R hv;dsimp only[nW];by_cases hst:∃e p,t=.Starred e p
  ·obtain⟨e,p,rfl⟩:=hst;exact .of_bad
  ·have hst:∀e p,t≠.Starred e p:=λ e p q=>hst ⟨e,p,q⟩
   rw[wK hst];cases r with
   |nil=>
    have:=Fb O hev t EV R hv;intro hb;refine cO (this (λ q=>hb (by rw[q];rfl))) ?_ ?_
    ·rintro b s' ⟨a,Y',h',tk,ρ',e,rfl,R',x⟩;exact⟨(),Y',h',tk,ρ',by rw[e];rfl,rfl,R',trivial⟩
    ·rintro e s' ⟨x',Y',h',tk,ρ',e1,e2,e3⟩;exact⟨x',Y',h',tk,ρ',by rw[e1];rfl,e2,e3⟩
   |cons t2 r2=>
    have hne:∃q l,(assignEach (t2::r2) env).map (·.2)=q::l:=by
     by_cases hst2:∃e p,t2=.Starred e p
     ·obtain⟨e,p,rfl⟩:=hst2;exact⟨_,_,rfl⟩
     ·rw[wK λ e p q=>hst2 ⟨e,p,q⟩];exact⟨_,_,rfl⟩
    obtain⟨q,l,hq⟩:=hne;show C.Snd A (assignAll c (assign t env::(assignEach (t2::r2) env).map (·.2))) ρ _ rB s;rw[hq]at ih ⊢;refine Cx.Snd.bind' (Cx.Snd.holding (Fb O hev t EV R hv)) λ _ σ₁ _ hH tk1 ρ1 RA _=>?_
    exact ih (EV.mono _) RA hv.mono
theorem abz(hev:Gn C A en env (jj cl n))(EV:dm C A ρ en env)(R:C.Rep ρ s.heap Y){f:Expr}{args:List Expr}{kw:List Keyword}{p pos:Pos}:
  C.Snd A (exec (.Expr (.Call f args kw p) pos) env) ρ ((jj cl n (.Call f args kw p) en Y).bind λ _ Y=>.ok .next Y) vy s:=by
 simp only[arm_exec_Expr];have hs:swapsWith (.Call f args kw p) none pos.line env=pure false:=rfl;rw[(by unfold interactive;rw[EV.kind];rfl:interactive env=false),hs];refine Cx.Snd.at ?_;simp only[if_false,pure_bind];refine Cx.Snd.bind' (hev _ EV R) λ v σ₁ c hH tk1 ρ1 RA hv=>?_
 exact λ _=>wpAny_dropValue (Cx.ret0 RA rfl)
theorem QZ{e:Expr}(h:MK e=false)(t:Option Expr)(l:Nat):swapsWith e t l env=pure false:=by
 induction e using PySem.Expr.casesOn<;>first|rfl|exact qW h|contradiction
set_option tactic.hygienic true in
theorem Q0(t e:Expr)(l:Nat):∃b,swapsWith e (some t) l env=pure b/\(b=true->(∃y py,t=.Name y py)/\MK e=true):=by
 refine uq λ G toG=>?_
 induction hc:MK e with
 |false=>exact toG ⟨false,QZ hc _ l,nofun⟩
 |true=>
  have hs:∃sc,swapsWith e (some t) l env=(match some t with
   |none=>swapsWith e none l env
   |some (.Name t pos)=>(pure (env.blockKind== .function&&env.kindOf t==some .local&&pos.line==e.pos.line&&!(Scope.names sc).any λ(n,k)=>n==t&&(k== .local||k== .cell)):Sem Bool)
   |some _=>pure false):=by
   clear toG;induction e using PySem.Expr.casesOn
   case ListComp _ _ sc _=>exact⟨sc,rfl⟩
   case SetComp _ _ sc _=>exact⟨sc,rfl⟩
   case DictComp _ _ _ sc _=>exact⟨sc,rfl⟩
   all_goals first|exact ns hc|exact qW hc|cases hc
  obtain⟨sc,hs⟩:=hs;induction hn:nU t with
  |some y=>obtain⟨py,rfl⟩:=oW hn;exact toG ⟨_,hs,λ _=>⟨⟨y,py,rfl⟩,hc⟩⟩
  |none=>exact toG ⟨false,(by clear toG;rw[hs];induction t using PySem.Expr.casesOn<;>first|rfl|exact ns hn|exact qW hn|(contradiction;done)),nofun⟩
theorem YB{ts:List Expr}{e:Expr}(h:Qn e=false)(env:Env):swappedStores ts e env=pure none:=by
 rcases ts with _|⟨a,_|⟨b,r⟩⟩
 ·rfl
 all_goals induction a using PySem.Expr.casesOn<;>first|rfl|(induction e using PySem.Expr.casesOn<;>first|rfl|exact qW h.symm)
theorem Jy(O:Ops C A en env cl)(hev:Gn C A en env (jj cl n))(EV:dm C A ρ en env)(R:C.Rep ρ s.heap Y){ts:List Expr}{e:Expr}(hs:Qn e=false):
  C.Snd A (eval e env >>= λ v=>swappedStores ts e env >>= λ sw=>assignStores env v sw ((assignEach ts env).map (·.2))) ρ ((jj cl n e en Y).bind λ v Y=>(nW cl n ts v en Y).bind λ _ Y=>.ok .next Y) vy s:=by
 rw[YB hs];refine Cx.Snd.bind' (hev _ EV R) λ v σ₁ c hH tk1 ρ1 RA hv=>?_
 show C.Snd A (assignAll c ((assignEach ts env).map (·.2)) >>= λ _=>pure .next) _ _ vy _;refine Cx.Snd.bind' (Jx O hev ts (EV.mono _) RA hv) λ _ σ₂ _ hV tk2 ρ2 RC _=>λ _=>aB (Cx.ret0 RC rfl)
theorem Kv{m:Str->Option ao}{L':aR}{h:cG}(R:(C.inn L' env m).Rep ρ h Y)(hL:env.locals=C.L):jb C ρ L':=by
 refine⟨Mine.Rep.notL R,λ q=>?_,λ p hp q=>?_⟩
 ·obtain⟨a,y⟩:=Mine.Rep.callers R (env,m) (.head _);exact y.notL (y.frame.symm.trans (hL.trans q.symm))
 ·obtain⟨a,y⟩:=Mine.Rep.callers R p (.tail _ hp);exact y.notL (y.frame.symm.trans q)
theorem Q5{α β:Type}{o:Option α}{k:α->aC β}{z:Gi}{τ:St}(h:∀a,k a≠.exc z τ):onS o k≠.exc z τ:=by
 induction o with
 |none=>nofun
 |some a=>exact h a
theorem Uh{en:En}{x:Str}{v:V}{Y Y'':St}{z:Gi}{P:Prop}(q:gF en x v Y=.exc z Y''):P:=by
 unfold gF at q;induction e:en.scope.names.lookup x with
 |none=>rw[e]at q;contradiction
 |some k=>
  rw[e]at q;clear e;induction k<;>try first|exact ns q|exact qW q|contradiction
  refine absurd q (Q5 λ c=>Q5 λ o=>?_);intro q;induction o<;>try first|exact ns q|exact qW q|contradiction
  replace q:grd (decide (k0<=c)) _=_:=q;generalize decide (k0<=c)=b at q;induction b<;>first|exact ns q|exact qW q|contradiction
theorem Jz(hO:zN d cl)(W:yw d C)(EV:dm C A ρ en env)(R:C.Rep ρ s.heap Y){y:Str}{py:Pos}{isl:Bool}{x:Str}{px:Pos}{iter elt:Expr}{ifs:List Expr}{scope:Scope}{pos ps:Pos}:
  C.Snd A (comprehension (xO isl elt [⟨.Name x px,iter,ifs,0⟩] scope pos) scope env ps (Ht isl) false (eval iter env) (some λ v=>assignAll v ((assignEach [.Name y py] env).map (·.2))) >>= λ _=>(pure .next:Sem Flow)) ρ
   (((jj cl n iter en Y).bind (sZ isl (Et cl n) (jj cl n) x iter elt ifs scope en)).bind λ v Y=>(nW cl (n+1) [.Name y py] v en Y).bind λ _ Y=>.ok .next Y) vy s:=by
 obtain⟨hev,hte⟩:=vI hO n;intro hb;refine ak (Ku hte hev W EV R (λ q=>hb (by rw[q];rfl)) ?_ ?_)
 ·rintro e s' ⟨x',Y',h',tk,ρ',e1,e2,e3⟩;exact⟨x',Y',h',tk,ρ',by rw[e1];rfl,e2,e3⟩
 ·intro v σ₁ ρ1 L' D m Y' h' tk ρ' e1 e2 R' hl hv;simp only[e1,e2,aC.bind_ok]at hb ⊢;refine uq λ Gz toG=>?_
  have R5:C.Rep (ρ++ρ1++[D]++ρ') h' {loc:=σ₁.loc,sto:=Y'.sto}:=Rep.leave R' hl EV.locals (dO.refl ..);obtain⟨g,g1,g2,Rg,g3⟩:=Rep.strong R5;obtain⟨mi,⟨oL,es,ep,hL1,hL2⟩,_⟩:=Mine.Rep.loc R';have ap:=Kv R' EV.locals;have hgL:=g3 L' oL hL1 ap;have EV5:dm C A (ρ++ρ1++[D]++ρ') en env:=((EV.mono _).mono _).mono _;have asg:(C.on g).Snd A (assign (.Name y py) env (.ref D)) (ρ++ρ1++[D]++ρ') (gF en y (.ref σ₁.sto.length) {loc:=σ₁.loc,sto:=Y'.sto}) rB {s with heap:=h',toks:=tk}:=by
   exact Cx.Snd.at (jr EV5.on Rg y hv)
  have hst:nW cl (n+1) [.Name y py] (.ref σ₁.sto.length) en {loc:=σ₁.loc,sto:=Y'.sto}=(gF en y (.ref σ₁.sto.length) {loc:=σ₁.loc,sto:=Y'.sto}).bind λ _ Y=>.ok () Y:=rfl
  have hns:gF en y (.ref σ₁.sto.length) {loc:=σ₁.loc,sto:=Y'.sto}≠.bad:=λ q=>hb (by rw[hst,q];rfl)
  have hnx:∀z Y'',gF en y (.ref σ₁.sto.length) {loc:=σ₁.loc,sto:=Y'.sto}≠.exc z Y'':=by
   intro z Y'' q;exact Uh q
  refine toG (Cx.Snd.calm (C:=C.on g) asg hns hnx λ _ YI _ h₆ tk6 ρ6 e6 RI _=>?_);refine⟨mi,⟨oL,es,ep,Mine.Rep.keep RI L' oL hgL,hL2⟩,λ h'' hs=>?_⟩;refine aB ⟨.next,YI,h'',tk6,ρ1++[D]++ρ'++ρ6,?_,rfl,by simpa only[aj]using (Rep.other (Rep.weak (C:=C) g1 (Mine.Rep.sysIn R) RI) hs.extBut (jb.stay ap hgL RI EV5.stat) (Mine.Rep.newL R')),rfl⟩;rw[hst,e6];rfl
end
structure akf(d:Nat)(cl:Nat->List V->St->aC V)(n:Nat)(ex:Stmt->En->St->aC Fl):Prop where
 try_:∀(C:Cx) (A:bJ) (en:En) (env:Env),yw d C->∀(b:List Stmt) (hs:List ExceptHandler) (o f:List Stmt) (p:Pos) {ρ}{s:aD} {Y},dm C A ρ en env->C.Rep ρ s.heap Y->
  C.Snd A (exec (.Try b hs o f p) env) ρ (G3 cl n ex (.Try b hs o f p) en Y) vy s
 raise_:∀(C:Cx) (A:bJ) (en:En) (env:Env),yw d C->∀(e c:Option Expr) (p:Pos) {ρ}{s:aD} {Y},dm C A ρ en env->C.Rep ρ s.heap Y->
  C.Snd A (exec (.Raise e c p) env) ρ (G3 cl n ex (.Raise e c p) en Y) vy s
section
variable {d:Nat}{C:Cx}{A:bJ}{ρ:List aR}{s:aD}{Y:St}{en:En}{env:Env}{cl:Nat->List V->St->aC V}{n:Nat}{ex:Stmt->En->St->aC Fl}
theorem Ui(ts:List Expr)(e:Expr)(l:Nat):∃b,swapsWithSole ts e l env=pure b/\(b=true->(∃y py,ts=[.Name y py])/\MK e=true):=by
 match ts with
 |[]=>exact⟨false,rfl,nofun⟩
 |[t]=>
  obtain⟨b,h1,h2⟩:=Q0 (env:=env) t e l;refine⟨b,h1,λ q=>?_⟩;obtain⟨⟨y,py,rfl⟩,h4⟩:=h2 q;exact⟨⟨y,py,rfl⟩,h4⟩
 |_::_::_=>exact⟨false,rfl,nofun⟩
set_option tactic.hygienic true in
theorem Hu(hO:zN d cl)(W:yw d C)(EV:dm C A ρ en env)(R:C.Rep ρ s.heap Y){y:Str}{py:Pos}(isl:Bool){elt:Expr}{gens:List Comprehension}{scope:Scope}{p:Pos}{k:Nat}{t:Sem Flow}
  (ht:∀x px iter ifs,gens=[⟨.Name x px,iter,ifs,0⟩]->∃ps,t=(comprehension (xO isl elt [⟨.Name x px,iter,ifs,0⟩] scope p) scope env ps (Ht isl) false (eval iter env) (some λ v=>assignAll v ((assignEach [.Name y py] env).map (·.2))) >>= λ _=>(pure .next:Sem Flow))):
  C.Snd A t ρ ((Es isl (jj cl k) (Et cl k) elt gens scope en Y).bind λ v Y=>(nW cl (k+1) [.Name y py] v en Y).bind λ _ Y=>.ok .next Y) vy s:=by
 unfold Es;split
 ·rename_i x iter ifs hg
  obtain⟨px,rfl⟩:=Qp hg;obtain⟨ps,rfl⟩:=ht _ _ _ _ rfl;exact Jz hO W EV R
 ·exact .of_bad
set_option tactic.hygienic true in
theorem Uj(hO:zN d cl)(W:yw d C)(EV:dm C A ρ en env)(R:C.Rep ρ s.heap Y){ts:List Expr}{e:Expr}{pos:Pos}(hs:Qn e=false):
  C.Snd A (exec (.Assign ts e pos) env) ρ ((jj cl n e en Y).bind λ v Y=>(nW cl n ts v en Y).bind λ _ Y=>.ok .next Y) vy s:=by
 obtain⟨b,h1,h2⟩:=Ui (env:=env) ts e pos.line;refine Cx.Snd.at ?_;rw[h1];induction b with
 |false=>exact Jy (hO C A en env W) (((vI hO n).1) C A en env W) EV R (ts:=ts) (e:=e) hs
 |true=>
  obtain⟨⟨y,py,rfl⟩,hc⟩:=h2 rfl;cases n with
  |zero=>exact .of_bad
  |succ k=>
   rw[pure_bind,if_pos rfl];refine uq λ G toG=>?_
   induction e using PySem.Expr.casesOn
   case ListComp elt gens scope p=>
    refine toG (Hu hO W EV R (p:=p) true λ x px iter ifs q=>?_);clear hs hc h1 h2 toG;subst q;exact⟨_,by rw[arm_evalThenUse_ListComp];simp only[bind_assoc];rfl⟩
   case SetComp elt gens scope p=>
    refine toG (Hu hO W EV R (p:=p) false λ x px iter ifs q=>?_);clear hs hc h1 h2 toG;subst q;exact⟨_,by rw[arm_evalThenUse_SetComp];simp only[bind_assoc];rfl⟩
   case DictComp=>exact toG .of_bad
   all_goals first|exact ns hc|exact qW hc|cases hc
end
section
variable {d:Nat}{C:Cx}{A:bJ}{ρ:List aR}{s:aD}{Y:St}{en:En}{env:Env}{cl:Nat->List V->St->aC V}{n:Nat}{ex:Stmt->En->St->aC Fl}
set_option tactic.hygienic true in
theorem abA(hO:zN d cl)(W:yw d C)(EV:dm C A ρ en env)(R:C.Rep ρ s.heap Y){t e:Expr}{op:Operator}{p:Pos}:C.Snd A (exec (.AugAssign t op e p) env) ρ (ahI cl n t op e en Y) vy s:=by
 have hev:=(vI hO n).1 C A en env W;have O:=hO C A en env W;unfold ahI;have k:=qK t;generalize view t=w at k ⊢;induction w
 case name x=>
  obtain⟨px,rfl⟩:=k;rw[arm_exec_AugAssign];refine Cx.Snd.at ?_;refine Cx.Snd.bind' (Km W.1 EV R _) λ v σ₁ c hH tk1 ρ1 RA hv=>?_
  refine Cx.Snd.bind' (Cx.Snd.holding (hev _ (EV.mono _) RA)) λ u σ₂ d hV tk2 ρ2 RC hu=>?_
  refine Cx.Snd.at (Cx.Snd.bind' (Cx.Snd.operate (Ke RC hv.mono hu)) λ w' Y3 e hW tk3 ρ3 RE hw=>?_);refine Cx.Snd.at (Cx.Snd.bind' (jr (((EV.mono _).mono _).mono _) RE _ hw) λ _ YA _ hY tk4 ρ4 RF _=>?_);exact λ _=>aB (Cx.ret0 RF rfl)
 case attr o a p=>
  cases k;rw[arm_exec_AugAssign_2];refine Cx.Snd.at ?_;refine Cx.Snd.bind' (hev _ EV R) λ ov σ₁ c hH tk1 ρ1 RA hv=>?_
  refine Cx.Snd.unhold ?_;simp only[bind_assoc];refine Cx.Snd.at ?_;refine Cx.Snd.bind' (O.attr RA hv) λ old σ₂ d hV tk2 ρ2 RC hu=>?_
  refine Cx.Snd.bind' (Cx.Snd.holding (hev _ ((EV.mono _).mono _) RC)) λ u Y3 e hW tk3 ρ3 RE hw=>?_
  refine Cx.Snd.at (Cx.Snd.bind' (Cx.Snd.operate (Ke RE hu.mono hw)) λ w' YA f hY tk4 ρ4 RF hw'=>?_);refine Cx.Snd.at (Cx.Snd.bind' (Cx.Snd.holding (O.setAttr RF hv.mono.mono.mono hw')) λ _ YE _ hX tk5 ρ5 RH _=>?_);exact λ _=>ak (rC (aB (Cx.ret0 RH rfl)))
 all_goals exact .of_bad
set_option tactic.hygienic true in
theorem abB(hev:Gn C A en env (jj cl n))(EV:dm C A ρ en env)(R:C.Rep ρ s.heap Y){ts:List Expr}{p:Pos}:C.Snd A (exec (.Delete ts p) env) ρ (ajZ cl n ts en Y) vy s:=by
 refine .onS λ t e1=>.onS λ p e2=>?_
 cases mj e1;obtain⟨q,rfl,-⟩:=aa3 e2;rw[arm_exec_Delete];refine Cx.Snd.at ?_;show C.Snd A ((delete (.Subscript _ _ _) env >>= λ _=>pure ()) >>= λ _=>pure .next) ρ _ vy s;rw[arm_delete_Subscript];simp only[bind_assoc,pure_bind];refine rE hev EV R λ EV R hv hu=>Cx.Snd.at ?_
 refine Cx.Snd.bind' (Cx.Snd.holding (Np R hv hu)) λ _ Y3 _ hW tk3 ρ3 RE _=>?_
 exact λ _=>ak (rC (aB (Cx.ret0 RE rfl)))
set_option tactic.hygienic true in
theorem abC(hO:zN d cl)(hex:HEx d ex)(W:yw d C)(hA:A.handled=none)(EV:dm C A ρ en env)(R:C.Rep ρ s.heap Y){t it:Expr}{b o:List Stmt}{p:Pos}(hs:wJ it=false):
  C.Snd A (exec (.For t it b o p) env) ρ (ahK cl n ex t it b o en Y) vy s:=by
 have hev:=(vI hO n).1 C A en env W;unfold ahK;induction hx:nU t with
 |some x=>
  obtain⟨q,rfl⟩:=oW hx;exact afp hev (λ g hg=>hex (C.on g) A en env (W.on hg)) hA EV R hs
 |none=>
  refine .onB λ es h1=>.onS λ xs h2=>.onS λ p h3=>?_
  obtain⟨c,q,rfl⟩:=aa4 h1;rw[xJ h3]at h2;obtain⟨px,r,rfl,h3⟩:=oX h2;obtain⟨py,r,rfl,h4⟩:=oX h3;cases xK h4;exact abt hev (hex C A en env W) hA EV R hs
theorem abD(hev:Gn C A en env (jj cl n))(EV:dm C A ρ en env)(R:C.Rep ρ s.heap Y){e:Option Expr}{p:Pos}:C.Snd A (exec (.Return e p) env) ρ ((Tw (jj cl n) e en Y).bind λ v Y=>.ok (.ret v) Y) vy s:=by
 refine Cx.Snd.at ?_;induction e with
 |none=>exact λ _=>aB (Cx.ret0 R ⟨_,rfl,rfl⟩)
 |some e=>
  exact Cx.Snd.bind' (hev _ EV R) λ v σ₁ c hH tk1 ρ1 RA hv=>λ _=>aB (Cx.ret0 RA ⟨_,rfl,hv⟩)
theorem Hv{t:Sem Flow}{c:Bool}{r:aC Fl}(h:c=true->C.Snd A t ρ r vy s):C.Snd A t ρ (if c then r else .bad) vy s:=by
 induction c with
 |true=>exact h rfl
 |false=>exact .of_bad
set_option tactic.hygienic true in
theorem YC(hO:zN d cl)(hex:HEx d ex)(T:akf d cl n ex):HEx d (G3 cl n ex):=by
 obtain⟨hev0,hte0⟩:=vI hO n;intro C A en env W t ρ s Y EV R;have hev:=hev0 C A en env W;have hte:=hte0 C A en env W;have hexC:=hex C A en env W;cases t;case Expr e p=>
  refine Hv λ h=>?_
  obtain⟨f,a,k,q,rfl⟩:=XM h;exact abz hev EV R
 case Pass=>rw[arm_exec_Pass];exact Cx.Snd.at λ _=>aB (Cx.ret0 R rfl)
 case Break=>rw[arm_exec_Break];exact Cx.Snd.at λ _=>aB (Cx.ret0 R rfl)
 case Continue=>rw[arm_exec_Continue];exact Cx.Snd.at λ _=>aB (Cx.ret0 R rfl)
 case Return=>exact abD hev EV R
 case Assign ts e p=>
  show C.Snd A _ _ (if Qn e then .bad else _) _ _;split
  ·exact .of_bad
  ·rename_i h
   exact Uj hO W EV R (by simpa using h)
 case AugAssign=>exact abA hO W EV R
 case Delete=>exact abB hev EV R
 case If t b o p=>
  refine Cx.Snd.at ?_;refine Cx.Snd.bind' (hte _ EV R) λ b σ₁ c hH tk1 ρ1 RA hv=>?_
  subst hv;split
  ·exact iV hexC _ (EV.mono _) RA
  ·exact iV hexC _ (EV.mono _) RA
 case While=>exact Hv λ _=>Yr hte hexC EV R
 case For t it b o p=>
  refine Hv λ h=>?_
  simp only[bh,kE]at h;exact abC hO hex W (EV.free h.1) EV R h.2
 case Raise=>exact T.raise_ C A en env W _ _ _ EV R
 case Try=>exact T.try_ C A en env W _ _ _ _ _ EV R
 all_goals exact .of_bad
end
inductive XRf(C:Cx)(x:Gi)(ρ:List aR)(Y:St)(a:aR)(fl:ao)(h:cG):Prop
 |mk (base:cG) (m:Str->Option ao) (hn:base.get? a=none) (hr:∀h',base.StaysIn h'->h'.Ns C.L m->(∀p∈C.FS,h'.Ns p.1.locals p.2)->C.Rep ρ h' Y)
  (bL:base.get? C.L=none) (bF:∀p∈C.FS,base.get? p.1.locals=none) (hb:base.StaysIn h) (nL:h.Ns C.L m) (nF:∀p∈C.FS,h.Ns p.1.locals p.2) (hl:xr ρ Y.loc m) (a0:ao) (t:h.TracedAtW base a (vC x) a0 fl)
section
variable {C:Cx}{A:bJ}{ρ:List aR}{s:aD}{Y:St}{en:En}{env:Env}{x:Gi}{h:cG}
theorem XRf.rep{a:aR}{fl:ao}(X:XRf C x ρ Y a fl h):C.Rep ρ h Y:=let ⟨_,_,_,f,_,_,b,n,p,_,_,_⟩:=X;f h b n p
theorem XRf.cls{a:aR}{fl:ao}(X:XRf C x ρ Y a fl h):∃o,h.get? a=some o/\o.cls=vC x:=let ⟨_,_,_,_,_,_,_,_,_,_,_,t⟩:=X;t.there
theorem zO{o:Obj}{es ep}(h:o.data=.dict es ep):∀vs,o.data≠.fields vs:=λ vs q=>by rw[h]at q;cases q
theorem NZ{base h:cG}:∀{l:List (Env×(Str->Option ao))},(∀p∈l,p.1.scope.kind=.function/\p.1.frame=some p.1.locals/\base.get? p.1.locals=none/\h.Ns p.1.locals p.2)->h.FunFrames base (l.map (·.1)):=by
 intro l;induction l with
 |nil=>exact λ _=>trivial
 |cons p r ih=>
  intro hp;obtain⟨h1,h2,h3,⟨o,es,ep,ho,hd,_⟩⟩:=hp p (.head _);exact⟨by rw[h1];decide,⟨_,o,h2,h3,ho,zO hd⟩,ih λ q hq=>hp q (.tail _ hq)⟩
theorem YD(EV:dm C A ρ en env)(hown:en.own=true){base:cG}{m:Str->Option ao}(R:C.Rep ρ h Y){h':cG}(bL:base.get? C.L=none)(bF:∀p∈C.FS,base.get? p.1.locals=none)(nL:h'.Ns C.L m)(nF:∀p∈C.FS,h'.Ns p.1.locals p.2):
  h'.FunFrames base (env::C.FS.map (·.1)):=by
 have:=NZ (base:=base) (h:=h') (l:=(env,m)::C.FS) λ p hp=>by
  rcases bU.mp hp with rfl|hp
  ·exact⟨EV.kind,by rw[(EV.own hown).1];exact congrArg some EV.locals.symm,by show base.get? env.locals=none;rw[EV.locals];exact bL,by show h'.Ns env.locals m;rw[EV.locals];exact nL⟩
  ·obtain⟨b,y⟩:=Mine.Rep.callers R p hp;exact⟨y.fn,(EV.own hown).2.2 p hp,bF p hp,nF p hp⟩
 exact this
theorem W4{hp:cG}{a:aR}{args:List ao}(R:C.Rep ρ hp Y)(M:Heap.MadeExcOf hp h a (vC x) args):C.XR x ρ Y (.ref a) h:=by
 obtain⟨m,hm,hl⟩:=Mine.Rep.loc R;let l:=C.L::C.FS.map (·.1.locals)
 have hcal:∀p∈C.FS,hp.Ns p.1.locals p.2/\p.1.locals≠C.L/\C.h₀.get? p.1.locals=none/\p.1.locals∉ρ/\p.1.scope.kind=.function:=λ p hp'=>by
  obtain⟨b,y⟩:=Mine.Rep.callers R p hp';have:=y.frame;subst this;exact⟨y.ns,y.notL,y.new,y.notIn,y.fn⟩
 have sub:Sub (hideAll hp l) hp:=λ b o e=>of_hideAll l e
 have stay:∀b o,hp.get? b=some o->b∉l->(hideAll hp l).get? b=some o:=λ b o e n=>hideAll_get l e n
 have inρ:∀b,b∈ρ->b∉l:=λ b hb q=>by
  rcases bU.mp q with q|q
  ·exact Mine.Rep.notL R (q▸hb)
  ·obtain⟨p,hp',e⟩:=dD.mp q;exact(hcal p hp').2.2.2.1 (e▸hb)
 have in0:∀b o,C.h₀.get? b=some o->b∉l:=λ b o e q=>by
  rcases bU.mp q with q|q
  ·rw[q,Mine.Rep.newL R]at e;contradiction
  ·obtain⟨p,hp',e'⟩:=dD.mp q;rw[<-e',(hcal p hp').2.2.1]at e;contradiction
 refine⟨hideAll hp l,a,m,rfl,jt sub M.new,λ h' hb hn hf=>?_,jy l (.head _),λ p hp'=>jy l (.tail _ (dD.mpr ⟨p,hp',rfl⟩)),λ b o e=>M.keeps b o (sub b o e),hm.keeps M.keeps,λ p hp'=>(hcal p hp').1.keeps M.keeps,hl,
  .inl ⟨hp,args,sub,hm,λ p hp'=>(hcal p hp').1,M⟩⟩
 refine⟨λ b o e=>hb b o (stay b o (Mine.Rep.keep R b o e) (in0 b o e)),⟨m,hn,hl⟩,Mine.Rep.newL R,Mine.Rep.len R,Mine.Rep.nodup R,Mine.Rep.notL R,Mine.Rep.fresh R,λ i o b e e'=>?_,λ p hp'=>?_,Mine.Rep.sysIn R,Mine.Rep.sys R,Mine.Rep.fsnd R⟩
 ·obtain⟨co,z,y⟩:=Mine.Rep.objs R i o b e e';exact⟨co,hb b co (stay b co z (inρ b (bG e'))),y⟩
 ·obtain⟨_,q2,q3,q4,q5⟩:=hcal p hp';exact⟨p.1.locals,rfl,hf p hp',q3,q2,q4,q5⟩
theorem ahU{h h':cG}(u:h.UpToSlots h'){a:aR}{m:Str->Option ao}(n:h.Ns a m):h'.Ns a m:=u.ns n
theorem Kw(EV:dm C A ρ en env)(hown:en.own=true){e:ao}(X:C.XR x ρ Y e s.heap){Q:Unit->aD->Prop}{E:ao->aD->Prop}{M:Model}
  (h:∀a fl h',e=.ref a->XRf C x ρ Y a fl h'->Q () {s with heap:=h'}):bI M A (noteFrame e env) Q E s:=by
 obtain⟨hf,hfr,hfs⟩:=EV.own hown;obtain⟨base,a,m,rfl,hna,hrep,bL,bF,hb,nL,nF,hl,hc⟩:=X;have ff:=YD EV hown (hrep s.heap hb nL nF) bL bF nL nF;have sV:∀a0 fl h',Heap.NotedW base (env::C.FS.map (·.1)) a (vC x) a0 fl s.heap h'->Q () {s with heap:=h'}:=λ a0 fl h' ⟨k1,k2,k3,k4⟩=>by
  have u:s.heap.UpToSlots h':=k4;exact h a fl h' rfl ⟨base,m,hna,hrep,bL,bF,k1,u.ns nL,λ p hp=>u.ns (nF p hp),hl,a0,k3⟩
 rcases hc with⟨hp,args,hbp,nLp,nFp,M⟩|⟨a0,ht⟩
 ·obtain⟨t,he,htn,ht⟩:=M.there;dsimp only[noteFrame];rw[hf];refine ak (jO he rfl (x:=Value.none) rfl ?_);exact wpAny_entryW hfr ff hf he hb hna rfl (by simp) rfl λ h' hN=>sV _ _ h' hN
 ·exact wpAny_noteFrame_onW hfr ff hf ht hb hna λ h' hN=>sV _ _ h' hN
theorem xP{a:aR}{fl:ao}(X:XRf C x ρ Y a fl s.heap){Q:Unit->aD->Prop}{E:ao->aD->Prop}{M:Model}
  (h:∀h',XRf C x ρ Y a .none h'->Q () {s with heap:=h'}):bI M A (setFlight (.ref a) none) Q E s:=by
 obtain⟨base,m,hna,hrep,bL,bF,hb,nL,nF,hl,a0,ht⟩:=X;refine wpAny_setFlight_noneW (l:=[]) hb trivial ht λ h' k1 _ k3 k4=>?_
 have u:s.heap.UpToSlots h':=λ b o hb hn=>⟨o.slots,k4 b o hb hn⟩
 exact h h' ⟨base,m,hna,hrep,bL,bF,k1,u.ns nL,λ p hp=>u.ns (nF p hp),hl,a0,k3.at⟩
theorem Q6{m:Str->Option ao}{L':aR}{C':Cx}(hC':C'.prog=C.prog/\C'.w=C.w/\C'.h₀=C.h₀/\C'.L=L'/\C'.FS=(env,m)::C.FS){A':bJ}{en':En}{env':Env}{Y':St}(EV':dm C' A' ρ en' env')(hown:en'.own=true){e:ao}(X:C'.XR x ρ Y' e s.heap)
  (hL:env.locals=C.L) {l:List (Str×Option V)}(hl:xr ρ l m) {Q:Unit->aD->Prop}{E:ao->aD->Prop}{M:Model}
  (h:∀h',C.XR x ρ {Y' with loc:=l} e h'->Q () {s with heap:=h'}):bI M A' (leaving env' e) Q E s:=by
 obtain⟨prog,w,h0,FS,LL,room⟩:=C';obtain⟨rfl,rfl,rfl,rfl,rfl⟩:=hC';refine ak (Kw EV' hown X λ a fl hH he X1=>?_);clear X;subst he;refine xP (s:={s with heap:=hH}) X1 λ hV X2=>h hV (uq λ G toG=>?_)
 have R':=X2.rep;obtain⟨base,m',hna,hrep,bL,bF,hb,nL,nF,_,a0,ht⟩:=X2;have hin:(env,m)∈((env,m)::C.FS:Gl):=.head _;obtain⟨oe,vs,T,oT,ts,q1,q2,q3,q4,q5,q6,q7,q8,q9⟩:=id ht;let ll:=C.L::a::T::C.FS.map (·.1.locals)
 obtain⟨oL,es,ep,nL1,nL2,nL3⟩:=nL;have notll:∀b o,base.get? b=some o->b∉ll:=λ b o e q=>by
  rcases bU.mp q with q|q
  ·rw[q,(by have:=bF _ hin;rw[<-hL];exact this:base.get? C.L=none)]at e;contradiction
  rcases bU.mp q with q|q
  ·rw[q,hna]at e;contradiction
  rcases bU.mp q with q|q
  ·rw[q,q5]at e;contradiction
  obtain⟨p,hp,e'⟩:=dD.mp q;rw[<-e',bF p (.tail _ hp)]at e;contradiction
 have ap:=Kv R' hL;have Lll:LL∉ll:=λ q=>by
  rcases bU.mp q with q|q
  ·exact ap.notL q
  rcases bU.mp q with q|q
  ·rw[q,q1]at nL1;cases nL1;exact zO nL2 _ q3
  rcases bU.mp q with q|q
  ·rw[q,q7]at nL1;cases nL1;exact zO nL2 _ q8
  obtain⟨p,hp,e'⟩:=dD.mp q;exact ap.notF p hp e'
 refine toG ⟨hideAll hV ll,a,m,rfl,jy ll (.tail _ (.head _)),λ h' b1 b2 b3=>?_,jy ll (.head _),λ p hp=>jy ll (.tail _ (.tail _ (.tail _ (dD.mpr ⟨p,hp,rfl⟩)))),λ b o e=>of_hideAll ll e,(by have:=nF _ hin;rw[<-hL];exact this),λ p hp=>nF p (.tail _ hp),hl,
  .inr ⟨a0,oe,vs,T,oT,ts,q1,q2,q3,q4,jy ll (.tail _ (.tail _ (.head _))),q6,q7,q8,q9⟩⟩
 have R3:(C.inn LL env m).Rep ρ h' Y':=hrep h' (λ b o e=>b1 b o ((λ b o e=>hideAll_get ll (hb b o e) (notll b o e)) b o e)) (⟨oL,es,ep,b1 _ _ (hideAll_get ll nL1 Lll),nL2,nL3⟩) λ p hp=>by
  rcases bU.mp hp with rfl|hp
  ·show h'.Ns env.locals m;rw[hL];exact b2
  ·exact b3 p hp
 exact Rep.leave R3 hl hL (dO.refl ..)
end
section
variable {d:Nat}{C:Cx}{A:bJ}{ρ:List aR}{s:aD}{Y:St}{en:En}{env:Env}{x:Gi}{h:cG}{cl:Nat->List V->St->aC V}{n:Nat}{ex:Stmt->En->St->aC Fl}
theorem Q7(W:Wf C)(EV:dm C A ρ en env){A':bJ}(R:C.Rep ρ s.heap Y)(hk:en.scope.names.lookup (jl x)=some .globalImplicit){p:Pos}{M:Model}{Q:ao->aD->Prop}{E:ao->aD->Prop}(hq:Q (vC x) s):
  bI M A' (eval (.Name (jl x) p) env) Q E s:=by
 obtain⟨hb,_,kb,F⟩:=W;obtain⟨mg,mb,g,b,hg⟩:=F.names x;have kp:=λ b o e=>Mine.Rep.keep R b o (kb b o e)
 refine Name_function_global EV.kind (by unfold Env.kindOf;rw[EV.scope];exact hk) ?_ (by clear hk hq hg;induction x<;>decide);rcases hg with h1|⟨h1,h2⟩
 ·exact loadGlobal_global (by rw[EV.globals];exact g.keeps kp) h1 hq
 ·exact loadGlobal_builtin (by rw[EV.globals];exact g.keeps kp) h1 (by rw[EV.builtins];exact b.keeps kp) h2 hq
theorem Uk{a:aR}{o:Obj}(e:s.heap.get? a=some o)(hc:o.cls=vC x){M:Model}{Q:ao->aD->Prop}{E:ao->aD->Prop}(hq:Q (vC x) s):bI M A (typeOf (.ref a)) Q E s:=
 wpAny_typeOf_ref e (by rw[hc];exact hq)
theorem Q8(W:Wf C){A':bJ}(R:C.Rep ρ s.heap Y){a:aR}{o:Obj}(e:s.heap.get? a=some o)(hc:o.cls=vC x){Q:Bool->aD->Prop}{E:ao->aD->Prop}(hq:Q true s):
  bI (model C.prog C.w) A' (excMatches (.ref a) (vC x)) Q E s:=by
 obtain⟨hb,_,kb,F⟩:=W;have kp:∀b o,hb.get? b=some o->s.heap.get? b=some o:=λ b o e=>Mine.Rep.keep R b o (kb b o e)
 refine ak ((F.tuple x) _ _ _ _ kp ?_);simp only[gW,List.forIn_nil,bind_assoc,pure_bind];refine ak ((F.isExc x) _ _ _ _ kp ?_);simp only[bD,aF,if_false,pure_bind];refine ak (Uk e hc ?_);refine ak ((F.sub x) _ _ _ _ kp ?_);exact aB hq
theorem abE(W:Wf C)(EV:dm C A ρ en env){A':bJ}{a:aR}{fl:ao}(X:XRf C x ρ Y a fl s.heap)(hk:en.scope.names.lookup (jl x)=some .globalImplicit){p q:Pos}{RO:Result->aD->Prop}(k:RO (.ok .brk) s):
  f9 (model C.prog C.w) A' (.handlers (.ref a) [.ExceptHandler (some (.Name (jl x) p)) none [] q] env) RO s:=by
 obtain⟨ob,ho,hoc⟩:=X.cls;exact codeAny_handlers_test (Q7 W EV X.rep hk (Q8 W X.rep ho hoc k))
theorem YF(hex:HEx d ex)(W:yw d C)(EV:dm C A ρ en env){a:aR}{fl:ao}(X:XRf C x ρ Y a fl s.heap){b:Stmt}{l:List Stmt}{f:Fl}{Y':St}(e:bY ex (b::l) {en with free:=false} Y=.ok f Y'){q:Pos}{RO:Result->aD->Prop}
  (k:∀f' h' tk ρ',C.Rep (ρ++ρ') h' Y'->vy (ρ++ρ') f f'->RO (.ok f') {s with heap:=h',toks:=tk}):
  f9 (model C.prog C.w) (A.mark (some (.ref a))) (.handlers (.ref a) [.ExceptHandler none none (b::l) q] env) RO s:=by
 refine codeAny_handlers_suite (xP X λ h' X'=>?_);have EVh:dm C (A.mark (some (.ref a))) ρ {en with free:=false} env:=⟨EV.scope,EV.kind,EV.locals,EV.globals,EV.builtins,EV.cells,λ q=>(by contradiction),EV.units,EV.room,EV.files,EV.stat,EV.own⟩;exact Cx.Snd.told (s:={s with heap:=h'}) (iV (hex C _ _ env W) (b::l) EVh X'.rep) e λ f' hX tk5 ρ5 RH hf=>k f' hX tk5 ρ5 RH hf
theorem abF(hex:HEx d ex)(W:yw d C)(hown:en.own=true)(EV:dm C A ρ en env){e:ao}(X:C.XR x ρ Y e s.heap){hs:List ExceptHandler}{hh:List Stmt}(hp:ux hs=some (jl x,hh))(hk:en.scope.names.lookup (jl x)=some .globalImplicit){f:Fl}{Y':St}(e':bY ex hh {en with free:=false} Y=.ok f Y')
  {Q:Flow->aD->Prop}{E:ao->aD->Prop}(k:∀f' h' tk ρ',C.Rep (ρ++ρ') h' Y'->vy (ρ++ρ') f f'->Q f' {s with heap:=h',toks:=tk}):
  bI (model C.prog C.w) A (noteFrame e env) (λ _ sA=>bI (model C.prog C.w) A (setFlight e none) (λ _ s₃=>bI (model C.prog C.w) A (handleBy e env hs) Q E s₃) E sA) E s:=by
 obtain⟨xp,px,hq,hne⟩:=Ng hp;clear hp;subst hq;cases hh with
 |nil=>exact absurd rfl hne
 |cons b l=>
  refine Kw EV hown X λ a fl hV he X2=>?_
  clear X;subst he;exact xP (s:={s with heap:=hV}) X2 λ hW XA=>wpAny_handleBy_cons (abE (s:={s with heap:=hW}) W.1 EV XA hk (YF (s:={s with heap:=hW}) hex W EV XA e' k)) (by intro q;contradiction)
inductive afw(ex:Stmt->En->St->aC Fl)(b:List Stmt)(hs:List ExceptHandler)(o:List Stmt)(en:En)(Y:St):aC Fl->Prop
 |next {σ₁}:bY ex b en Y=.ok .next σ₁->afw ex b hs o en Y (bY ex o en σ₁)
 |out {f σ₁}:bY ex b en Y=.ok f σ₁->f≠.next->afw ex b hs o en Y (.ok f σ₁)
 |caught {x σ₁ hh f σ₂}:bY ex b en Y=.exc x σ₁->ux hs=some (jl x,hh)->en.scope.names.lookup (jl x)=some .globalImplicit->bY ex hh {en with free:=false} σ₁=.ok f σ₂->afw ex b hs o en Y (.ok f σ₂)
set_option tactic.hygienic true in
theorem abG{b o:List Stmt}{hs:List ExceptHandler}(hb:XK ex b hs o en Y≠.bad):afw ex b hs o en Y (XK ex b hs o en Y):=by
 unfold XK at hb ⊢;induction e:bY ex b en Y with
 |bad=>rw[e]at hb;exact absurd rfl hb
 |ok f σ₁=>induction f with
  |next=>exact .next e
  |brk=>exact .out e nofun
  |cont=>exact .out e nofun
  |ret v=>exact .out e nofun
 |exc x σ₁=>
  rw[e]at hb;induction hp:ux hs with
  |none=>rw[hp]at hb;exact absurd rfl hb
  |some pr=>
   obtain⟨xn,hh⟩:=pr;rw[hp]at hb;dsimp only at hb ⊢;by_cases hxc:(xn==jl x&&en.scope.names.lookup xn==some .globalImplicit)=true
   ·rw[if_pos hxc]at hb ⊢;rw[bh,beq_iff_eq,beq_iff_eq]at hxc;obtain⟨fh,σh,eh,eh2⟩:=bindN_ok hb;obtain⟨rfl,hkn⟩:=hxc;rw[eh2];exact .caught e hp hkn eh
   ·rw[if_neg hxc]at hb;exact absurd rfl hb
set_option tactic.hygienic true in
theorem vy.out{P:Flow->Prop}{fl:Flow}{f:Fl}{Q:Prop}(h:vy ρ f fl)(hn:f≠.next)(k:P fl):(match(generalizing:=false) fl with|.next=>Q|fl=>P fl):=by
 induction f with
 |next=>exact absurd rfl hn
 |brk=>subst h;exact k
 |cont=>subst h;exact k
 |ret v=>obtain⟨c,rfl,hv⟩:=h;exact k
set_option tactic.hygienic true in
theorem abH(hex:HEx d ex)(W:yw d C)(hown:en.own=true)(EV:dm C A ρ en env)(R:C.Rep ρ s.heap Y){b:List Stmt}{h₀:ExceptHandler}{hr:List ExceptHandler}{o:List Stmt}{p:Pos}:
  C.Snd A (exec (.Try b (h₀::hr) o [] p) env) ρ (XK ex b (h₀::hr) o en Y) vy s:=by
 intro hb;have I:=abG hb;have hx:=iV (hex C A en env W) b EV R;refine wpAny_Try_except ?_;generalize XK ex b (h₀::hr) o en Y=r at hb I;induction I with
 |next e=>
  refine hx.told e λ fl hH tk1 ρ1 RA hf=>?_
  subst hf;exact cO (iV (hex C A en env W) o (s:={s with heap:=hH,toks:=tk1}) (EV.mono _) RA hb) (λ _ _=>.up) λ _ _=>.up
 |out e hn=>exact hx.told e λ fl hH tk1 ρ1 RA hf=>vy.out hf hn (Cx.ret1 RA hf)
 |caught e hp hk e'=>
  exact hx.thrown e λ e hH tk1 ρ1 X=>abF (s:={s with heap:=hH,toks:=tk1}) hex W hown (EV.mono _) X hp hk e' λ f' hX tk5 ρ5 RH hf=>Cx.Ret.up (Cx.ret1 RH hf)
theorem afx(hex:HEx d ex)(W:yw d C)(EV:dm C A ρ en env)(R:C.Rep ρ s.heap Y){b:List Stmt}{hs:List ExceptHandler}{o f:List Stmt}{p:Pos}:
  C.Snd A (exec (.Try b hs o f p) env) ρ (G3 cl n ex (.Try b hs o f p) en Y) vy s:=by
 refine Hv λ hc=>?_
 simp only[bh,iW]at hc;obtain⟨⟨⟨rfl,hfree⟩,hown⟩,hne⟩:=hc;induction hs with
 |nil=>first|exact ns hne|exact qW hne|cases hne
 |cons h₀ hr=>exact abH hex W hown EV R
end
section
variable {d:Nat}{C:Cx}{A:bJ}{ρ:List aR}{s:aD}{Y:St}{en:En}{env:Env}{x:Gi}{h:cG}{cl:Nat->List V->St->aC V}{n:Nat}{ex:Stmt->En->St->aC Fl}
set_option tactic.hygienic true in
theorem Ul(hO:zN d cl)(W:yw d C)(EV:dm C A ρ en env)(R:C.Rep ρ s.heap Y){e:Option Expr}{p:Pos}:
  C.Snd A (exec (.Raise e none p) env) ρ (TJ cl n e en Y) vy s:=by
 unfold TJ;split
 ·rename_i xn args hr
  obtain⟨px,pc,rfl,hlen⟩:=Qq hr;refine Hv λ hc=>?_
  simp only[bh,beq_iff_eq]at hc;obtain⟨⟨⟨⟨rfl,hst⟩,hfree⟩,hown⟩,hkn⟩:=hc;intro hbad;refine uq λ Gz toG=>?_
  obtain⟨hb,_,kb,G⟩:=W.1;obtain⟨nm,q,N,bs,hdct,sn,sub,ab,col,dd,k0',k1,k2,k3,k5,mN,hC,hN,hni⟩:=G.cyc;refine toG<|wpAny_Raise_call_sub (C:=55) (nm:=nm) (q:=q) (N:=N) (bs:=bs) (hdct:=hdct) (sn:=sn) (sub:=sub) (ab:=ab) (col:=col) (dd:=dd) (k0:=k0') (k1:=k1) (k2:=k2) (k3:=k3) (k5:=k5) F.excBase_ValueError (mN:=mN) (EV.free hfree) ?_ hni ?_
  ·rw[jU _ _ hst];simp
  ·refine Q7 (x:=.cyc) W.1 EV R hkn ⟨rfl,?_⟩;rw[jU _ _ hst];induction args with
   |nil=>first|exact ns hlen|exact qW hlen|contradiction
   |cons a0 r=>
    refine evalArgs_plain (cO (CT ((vI hO n).1 C A en env W) (a0::r) EV R (λ q=>hbad (by rw[q];rfl))) ?_ ?_)
    ·rintro cvs sC ⟨vs,σ₁,hH,tk1,ρ1,e1,rfl,RA,hvs⟩;have kp:∀b o,hb.get? b=some o->hH.get? b=some o:=λ b o e=>Mine.Rep.keep RA b o (kb b o e)
     refine⟨rfl,?_,kp _ _ hC,hN.keeps kp,λ h' a hm=>?_⟩
     ·show cvs.length<=ig;rw[<-hvs.length,(zc e1),hlen];decide
     ·rw[e1];exact⟨.cyc,σ₁,h',tk1,ρ1,rfl,rfl,W4 RA hm⟩
    ·rintro e s' ⟨x',Y',h',tk,ρ',e1,e2,e3⟩;rw[e1];exact⟨x',Y',h',tk,ρ',rfl,e2,e3⟩
 ·exact .of_bad
theorem YG(hO:zN d cl)(W:yw d C)(EV:dm C A ρ en env)(R:C.Rep ρ s.heap Y){e c:Option Expr}{p:Pos}:
  C.Snd A (exec (.Raise e c p) env) ρ (G3 cl n ex (.Raise e c p) en Y) vy s:=by
 induction c with
 |none=>exact Ul hO W EV R
 |some _=>exact .of_bad
theorem afy(hO:zN d cl)(hex:HEx d ex):akf d cl n ex:=
 ⟨λ C A en env W b hs o f p ρ s Y EV R=>afx hex W EV R,λ C A en env W e c p ρ s Y EV R=>YG hO W EV R⟩
theorem N5(hO:zN d cl):∀n,HEx d (gR cl n)
 |0=>λ _ _ _ _ _ _ _ _ _ _ _=>.of_bad
 |n+1=>by
  have ih:=N5 hO n;exact YC hO ih (afy hO ih)
end
theorem zP:∀{ns:List Str}{vs:List ao},ns.Nodup->∀{i:Nat}{n:Str}{v:ao},ns[i]?=some n->vs[i]?=some v->(ns.zip vs).lookup n=some v:=by
 intro ns;induction ns with
 |nil=>intro _ _ _ _ _ e _;exact Mine.ns e
 |cons n0 ns ih=>
  intro vs hn i n v e1 e2;rcases vs with _|⟨v0,vs⟩
  ·exact Mine.ns e2
  rw[fJ]at hn;induction i with
  |zero=>
   simp at e1 e2;subst e1 e2;simp
  |succ i=>
   have:n≠n0:=λ q=>hn.1 (q▸bG e1)
   simp only[sJ,dG,(by simpa using this:(n==n0)=false)];exact ih hn.2 e1 e2
theorem zj{ns:List Str}{vs:List ao}{l:List (Str×ao)}(hl:ns.length=vs.length)(h:∀(i:Nat) n v,ns[i]?=some n->vs[i]?=some v->l.lookup n=some v):
  (ns.filterMap λ n=>(l.lookup n).map (n,·))=ns.zip vs:=by
 induction ns generalizing vs with
 |nil=>rfl
 |cons n ns ih=>induction vs with
  |nil=>first|exact ns hl|exact qW hl|contradiction
  |cons v vs=>
   simp only[List.filterMap_cons,(h 0 n v rfl rfl),qF,sJ];rw[ih (by simpa using hl) λ i n' v' e1 e2=>h (i+1) n' v' (by simpa using e1) (by simpa using e2)]
theorem wL{ns:List Str}{vs:List ao}(hn:ns.Nodup){n:Str}{i:Nat}(h:ns[i]?=some n)(hi:i < vs.length):((ns.zip vs).lookup n).isSome=true:=by
 rw[zP hn h (bf hi)];rfl
theorem YH{ns:List Str}:∀{l:List (Str×ao)}{z:List (Str×ao)},(∀p∈l,(z.lookup p.1).isSome=true)->
  (forIn l z λ(x:Str×ao) (r:List (Str×ao))=>(if(r.lookup x.1).isNone=true then pure (ForInStep.yield (r++[(x.1,x.2)]))else pure (ForInStep.yield r):Sem (ForInStep (List (Str×ao)))))=pure z:=by
 intro l;induction l with
 |nil=>exact λ _=>rfl
 |cons p l ih=>
  intro z h;rw[gW];have:=h p (.head _);simp only[(by induction q:z.lookup p.1<;>simp_all:((z.lookup p.1).isNone)=false),if_false];exact ih λ q hq=>h q (.tail _ hq)
theorem abI{α β:Type}:∀(l:List α) (m:List β),l.zip m=l.zip (m.take l.length):=by
 intro l;induction l with
 |nil=>exact λ m=>rfl
 |cons a l ih=>
  intro m;rcases m with _|⟨b,m⟩
  ·rfl
  ·exact congrArg ((a,b)::·) (ih m)
theorem uE:∀{ns:List Str}{vs:List ao},ns.Nodup->∀{i:Nat}{n:Str},ns[i]?=some n->vs.length<=i->(ns.zip vs).lookup n=none:=by
 intro ns;induction ns with
 |nil=>intro _ _ _ _ e _;exact Mine.ns e
 |cons n0 ns ih=>
  intro vs hn i n e hi;rcases vs with _|⟨v0,vs⟩
  ·rfl
  rw[fJ]at hn;induction i with
  |zero=>simp at hi
  |succ i=>
   simp at e hi;have:n≠n0:=λ q=>hn.1 (q▸bG e)
   simp only[sJ,dG,(by simpa using this:(n==n0)=false)];exact ih hn.2 e hi
theorem JB{l:List (Str×ao)}{n m:Str}{v:ao}:(l++[(m,v)]).lookup n=match l.lookup n with
  |some u=>some u
  |none=>if n==m then some v else none:=by
 induction l with
 |nil=>dsimp only[jW,dG];induction n==m<;>rfl
 |cons p l ih=>
  obtain⟨k,u⟩:=p;dsimp only[vm,dG];induction n==k
  ·exact ih
  ·rfl
theorem Fg{α β:Type}:∀{l:List α}{m:List β}{p:α×β},p∈l.zip m->p.1∈l:=λ h=>(List.of_mem_zip h).1
noncomputable def yx(ns:List Str)(pos:List ao)(va:Option Arg)(df:List ao):Sem (List (Str×ao)):=
 (forIn ((ns.drop (ns.length - df.length)).zip df) (ns.zip pos) λ x z=>if(z.lookup x.1).isNone=true then pure (.yield (z++[(x.1,x.2)]))else pure (.yield z)) >>= λ z=>match va with
 |some a=>newTuple (pos.drop ns.length) >>= λ t=>pure ((ns++[]).filterMap (λ n=>(z.lookup n).map (n,·))++[(a.arg,t)])
 |_=>pure ((ns++[]).filterMap λ n=>(z.lookup n).map (n,·))
noncomputable def agU(ns:List Str)(pos:List ao)(va:Option Arg)(r1 r2:Sem (List (Str×ao)))(df:List ao):Sem (List (Str×ao)):=
 if(decide (pos.length > ns.length)&&va.isNone)=true then r1 else
 if(!((ns.take (ns.length - df.length)).filter λ n=>((ns.zip pos).lookup n).isNone).isEmpty)=true then r2 else yx ns pos va df
theorem YJ{fd:FuncData}{pos:List ao}(hpo:fd.params.posonlyargs=[])(hko:fd.params.kwonlyargs=[])(hkw:fd.params.kwarg=none):∃r1 r2:Option (Array ao)->Sem (List (Str×ao)),bindArgs fd ⟨pos,[]⟩=seqItems? fd.defaults >>= λ dl=>agU (fd.params.args.map (·.arg)) pos fd.params.vararg (r1 dl) (r2 dl) ((dl.getD #[]).toList.drop ((dl.getD #[]).toList.length - (fd.params.args.map (·.arg)).length)):=by
 obtain⟨n1,n2,p,n3,n4,n5,n6,n7,n8,n9,n10,n11,n12,n13,n14⟩:=fd;obtain⟨po,ar,va,ko,kd,kw,de⟩:=p;obtain rfl:po=[]:=hpo;obtain rfl:ko=[]:=hko;obtain rfl:kw=none:=hkw;refine⟨?r1,?r2,(pure_bind _ _).trans ?_⟩;rotate_left 2;refine bind_congr λ dl=>?_
 refine ite_congr rfl (λ _=>?_) λ _=>?_
 ·rfl
 refine ite_congr rfl (λ _=>?_) λ _=>?_
 ·rfl
 refine bind_congr λ z=>?_
 induction va<;>exact rfl
section
variable {M:Model}{A:bJ}{E:ao->aD->Prop}{s:aD}
theorem JC{α:Type}{o:Option α}(h:o.isSome=true):¬o.isNone=true:=by induction o<;>revert h<;>nofun
theorem Dd{fd:FuncData}{pos:List ao}{dl:Option (Array ao)}{ns:List Str}{va:Option Arg}{Q:List (Str×ao)->aD->Prop}(hpo:fd.params.posonlyargs=[])(hko:fd.params.kwonlyargs=[])(hkw:fd.params.kwarg=none)(hva:fd.params.vararg=va)(hns:fd.params.args.map (·.arg)=ns)
  (hdef:∀{Q:Option (Array ao)->aD->Prop},Q dl s->bI M A (seqItems? fd.defaults) Q E s)
  (hc:(decide (pos.length > ns.length)&&va.isNone)=false) (h:∀df,(dl.getD #[]).toList.drop ((dl.getD #[]).toList.length - ns.length)=df->(∀n∈ns.take (ns.length - df.length),((ns.zip pos).lookup n).isSome=true)/\bI M A (yx ns pos va df) Q E s):
  bI M A (bindArgs fd ⟨pos,[]⟩) Q E s:=by
 obtain⟨h1,h2⟩:=h _ rfl;obtain⟨r1,r2,e⟩:=YJ (pos:=pos) hpo hko hkw;rw[e,hva,hns];refine ak (hdef ?_);unfold agU;rw[if_neg (by rw[hc];nofun),if_neg]
 ·exact h2
 ·rw[oO.mpr λ n hn=>JC (h1 n hn)];nofun
theorem Df{ns:List Str}{pos:List ao}(hnd:ns.Nodup)(hlen:ns.length<=pos.length){n:Str}(hn:n∈ns):((ns.zip pos).lookup n).isSome=true:=by
 obtain⟨i,hi⟩:=lC hn;exact wL hnd hi (m8 (aN.mp hi).1 hlen)
theorem Ky{ns:List Str}{pos df:List ao}(hnd:ns.Nodup)(hlen:ns.length<=pos.length){va:Option Arg}:yx ns pos va df=match va with
  |some a=>newTuple (pos.drop ns.length) >>= λ t=>pure (ns.zip pos++[(a.arg,t)])
  |none=>pure (ns.zip pos):=by
 unfold yx;have e:(ns.filterMap λ n=>((ns.zip pos).lookup n).map (n,·))=ns.zip pos:=by
  rw[abI ns pos];exact zj (by rw[pO,mG hlen]) λ i n v e1 e2=>zP hnd e1 e2
 rw[YH (ns:=ns) λ p hp=>Df hnd hlen (List.mem_of_mem_drop (Fg hp)),pure_bind,aW,e];induction va<;>rfl
theorem Hw{fd:FuncData}{pos:List ao}{dl:Option (Array ao)}{Q:List (Str×ao)->aD->Prop}(hpo:fd.params.posonlyargs=[])(hko:fd.params.kwonlyargs=[])(hkw:fd.params.kwarg=none)(hva:fd.params.vararg=none)
  (hnd:(fd.params.args.map (·.arg)).Nodup) (hlen:pos.length=fd.params.args.length)
  (hdef:∀{Q:Option (Array ao)->aD->Prop},Q dl s->bI M A (seqItems? fd.defaults) Q E s) (h:Q ((fd.params.args.map (·.arg)).zip pos) s):
  bI M A (bindArgs fd ⟨pos,[]⟩) Q E s:=by
 have hl:pos.length=(fd.params.args.map (·.arg)).length:=by rw[hlen,au]
 refine Dd hpo hko hkw hva rfl hdef (by rw[hl];simp) λ df _=>⟨λ n hn=>Df hnd (Nat.le_of_eq hl.symm) (ql hn),?_⟩
 simp only[Ky hnd (Nat.le_of_eq hl.symm)];exact aB h
theorem YK{fd:FuncData}{pos:List ao}{dl:Option (Array ao)}{r:Arg}{Q:List (Str×ao)->aD->Prop}(hpo:fd.params.posonlyargs=[])(hko:fd.params.kwonlyargs=[])(hkw:fd.params.kwarg=none)(hva:fd.params.vararg=some r)
  (hnd:(fd.params.args.map (·.arg)).Nodup) (hlen:fd.params.args.length<=pos.length) (hsz:pos.length<=ig)
  (hdef:∀{Q:Option (Array ao)->aD->Prop},Q dl s->bI M A (seqItems? fd.defaults) Q E s)
  (h:Q ((fd.params.args.map (·.arg)).zip pos++[(r.arg,.ref s.heap.objs.size)]) {s with heap:=s.heap.push {cls:=.type "tuple",data:=.seq (pos.drop fd.params.args.length).toArray}}):
  bI M A (bindArgs fd ⟨pos,[]⟩) Q E s:=by
 rw[<-(au ..:(fd.params.args.map (·.arg)).length=fd.params.args.length)]at hlen h;refine Dd hpo hko hkw hva rfl hdef (oJ _) λ df _=>⟨λ n hn=>Df hnd hlen (ql hn),?_⟩
 rw[Ky hnd hlen];exact ak (wpAny_newTuple (aB h) (by rw[eY];lia))
theorem YL{α:Type}{l:List α}{n:Nat}{a:α}(h:l.length=n+1)(e:l[n]?=some a):l.drop n=[a]:=by
 obtain⟨h1,rfl⟩:=aN.mp e;rw[eF h1,cP (by lia)]
theorem YM{ns:List Str}{pos:List ao}{last:Str}{w:ao}(hnd:ns.Nodup)(hlen:ns.length=pos.length+1)(hl:ns[pos.length]?=some last)(i:Nat)(n:Str)(v:ao)(e1:ns[i]?=some n)(e2:(pos++[w])[i]?=some v):((ns.zip pos)++[(last,w)]).lookup n=some v:=by
 rw[JB];by_cases hi:i < pos.length
 ·rw[cH hi]at e2;rw[zP hnd e1 e2]
 ·obtain rfl:i=pos.length:=by have:=(aN.mp e1).1;lia
  obtain rfl:=Option.some.inj (hl.symm.trans e1);rw[uE hnd hl (bV _)];simpa using e2
theorem N6{ns:List Str}{pos:List ao}{w:ao}(hnd:ns.Nodup)(hlen:ns.length=pos.length+1):yx ns pos none [w]=pure (ns.zip (pos++[w])):=by
 obtain⟨last,hl⟩:∃a,ns[pos.length]?=some a:=⟨_,bf (by lia)⟩;dsimp only[yx];rw[show ns.length - [w].length=pos.length by simp[hlen],YL hlen hl,aW];show(ForIn.forIn [(last,w)] (ns.zip pos) _ >>= _)=_;rw[gW,uE hnd hl (bV _)];exact congrArg (λ l=>(pure l:Sem _)) (zj (by simp[hlen]) (YM hnd hlen hl))
theorem N7{fd:FuncData}{pos:List ao}{Q:List (Str×ao)->aD->Prop}(hpo:fd.params.posonlyargs=[])(hko:fd.params.kwonlyargs=[])(hkw:fd.params.kwarg=none)(hva:fd.params.vararg=none)
  (hnd:(fd.params.args.map (·.arg)).Nodup) (hlen:pos.length+1=fd.params.args.length)
  (hdef:∀{Q:Option (Array ao)->aD->Prop},Q (some #[.none]) s->bI M A (seqItems? fd.defaults) Q E s) (h:Q ((fd.params.args.map (·.arg)).zip (pos++[.none])) s):
  bI M A (bindArgs fd ⟨pos,[]⟩) Q E s:=by
 have hl:(fd.params.args.map (·.arg)).length=pos.length+1:=by rw[hlen,au]
 refine Dd hpo hko hkw hva rfl hdef (by rw[hl];simp) λ df e=>?_
 obtain rfl:[Value.none]=df:=by
  rw[<-e,hl,show(some #[Value.none] |>.getD #[]).toList.length - (pos.length+1)=0 from Nat.sub_eq_zero_of_le (Nat.le_add_left 1 _)];rfl
 rw[N6 hnd hl];refine⟨λ n hn=>?_,aB h⟩;obtain⟨i,hi⟩:=lC hn;rw[hl,List.getElem?_take]at hi;split at hi
 ·exact wL hnd hi ‹_›
 ·first|exact ns hi|exact qW hi|cases hi
end
section
variable {d:Nat}{C:Cx}{A:bJ}{ρ:List aR}{s:aD}{Y:St}{en:En}{env:Env}{x:Gi}{h:cG}{cl:Nat->List V->St->aC V}{n:Nat}{ex:Stmt->En->St->aC Fl}
theorem Rep.add(R:C.Rep ρ h Y){a:aR}{o:O}{co:Obj}(hc:h.get? a=some co)(ap:jb C ρ a)(h0:C.h₀.get? a=none)(ho:OR C.prog C.w (ρ++[a]) o co):C.Rep (ρ++[a]) h {Y with sto:=Y.sto++[o]}:=by
 refine⟨Mine.Rep.keep R,let ⟨m,z,y⟩:=Mine.Rep.loc R;⟨m,z,y.mono⟩,Mine.Rep.newL R,by simp[Mine.Rep.len R],?_,?_,?_,?_,?_,Mine.Rep.sysIn R,?_,Mine.Rep.fsnd R⟩
 ·rw[cN];refine⟨Mine.Rep.nodup R,by simp,λ u hu v hv=>?_⟩;simp only[aJ]at hv;clear hc h0 ho;subst hv;exact λ q=>ap.notIn (q▸hu)
 ·simp only[aM,aJ,not_or];exact⟨Mine.Rep.notL R,λ q=>ap.notL q.symm⟩
 ·intro i b hi e;by_cases hl:i < ρ.length
  ·rw[cH hl]at e;exact Mine.Rep.fresh R i b hi e
  ·rw[cD (jG hl)]at e;have:b=a:=by
    induction q:i - ρ.length with
    |zero=>rw[q]at e;simpa using e.symm
    |succ n=>rw[q]at e;contradiction
   rw[this];exact h0
 ·intro i o' b e e';have hl0:ρ.length=Y.sto.length:=Mine.Rep.len R;by_cases hl:i < ρ.length
  ·rw[cH hl]at e';rw[cH (by rw[<-hl0];exact hl)]at e;obtain⟨co',z,y⟩:=Mine.Rep.objs R i o' b e e';exact⟨co',z,y.mono⟩
  ·rw[cD (jG hl)]at e';rw[cD (by rw[<-hl0];exact jG hl),<-hl0]at e;induction q:i - ρ.length with
   |zero=>
    rw[q]at e e';simp at e e';subst e e';exact⟨co,hc,ho⟩
   |succ n=>rw[q]at e;contradiction
 ·intro p hp;obtain⟨b,z⟩:=Mine.Rep.callers R p hp;refine⟨b,z.frame,z.ns,z.new,z.notL,?_,z.fn⟩;simp only[aM,aJ,not_or];exact⟨z.notIn,λ q=>ap.notF p hp (z.frame.trans q)⟩
 ·intro b hb;rcases aM.mp hb with hb|hb
  ·exact Mine.Rep.sys R b hb
  ·rw[aJ.mp hb,beq_eq_false_iff_ne];intro q;rw[q]at h0;have:=Mine.Rep.sysIn R;rw[h0]at this;contradiction
theorem jb.add{a b:aR}(ap:jb C ρ b)(hne:b≠a):jb C (ρ++[a]) b:=
 ⟨by simp only[aM,aJ,not_or];exact⟨ap.notIn,hne⟩,ap.notL,ap.notF⟩
theorem Rep.addCells:∀{cs:List aR}{ρ:List aR}{Y:St},C.Rep ρ h Y->(∀a∈cs,(∃co,h.get? a=some co/\co.data=.cell none)/\jb C ρ a/\C.h₀.get? a=none)->cs.Nodup->C.Rep (ρ++cs) h {Y with sto:=Y.sto++cs.map λ _=>.cell none}:=by
 intro cs;induction cs with
 |nil=>intro ρ Y R _ _;simpa using R
 |cons a cs ih=>
  intro ρ Y R hc hn;rw[fJ]at hn;obtain⟨⟨co,h1,h2⟩,h3,h4⟩:=hc a (.head _);have:=ih (Rep.add R (o:=.cell none) h1 h3 h4 ⟨none,h2,rfl⟩) (λ b hb=>⟨(hc b (.tail _ hb)).1,(hc b (.tail _ hb)).2.1.add λ q=>hn.1 (q▸hb),(hc b (.tail _ hb)).2.2⟩) hn.2;simpa using this
theorem Hx:∀(names:List (Str×NameKind)) (n:Nat) (acc:List (Str×aR)),
  ∃l:List (Str×aR),cellsFrom n names acc=l.reverse++acc/\l.map (·.1)=(names.filter λ p=>p.2== .cell).map (·.1)/\l.map (·.2)=(gj l.length).map (n+·):=by
 intro names;induction names with
 |nil=>exact λ n acc=>⟨[],rfl,rfl,rfl⟩
 |cons p r ih=>
  intro n acc;obtain⟨x,k⟩:=p;dsimp only[cellsFrom];by_cases hk:(k==NameKind.cell)=true
  ·rw[if_pos hk];obtain⟨l,h1,h2,h3⟩:=ih (n+1) ((x,n)::acc);refine⟨(x,n)::l,by rw[h1];simp,by simp[hk,h2],?_⟩;simp only[h3,aZ,List.range_succ_eq_map,cA,wF];simp only[Nat.add_zero,List.cons.injEq,true_and];apply qH
   intro i _;simp;lia
  ·rw[if_neg hk];obtain⟨l,h1,h2,h3⟩:=ih n acc;exact⟨l,h1,by simp[hk,h2],h3⟩
end
set_option tactic.hygienic true in
noncomputable def Dg(loc:List (Str×Option V))(r:aC Fl):aC V:=match r with
 |.ok (.ret v) τ=>.ok v {loc:=loc,sto:=τ.sto}
 |.ok .next τ=>.ok .none {loc:=loc,sto:=τ.sto}
 |.ok _ _=>.bad
 |.exc e τ=>.exc e {loc:=loc,sto:=τ.sto}
 |.bad=>.bad
noncomputable def wM(cl:Nat->List V->St->aC V)(f:Fn)(args:List V)(Y:St):aC V:=match Eu f args Y with
 |none=>.bad
 |some (bs,σ₁)=>Dg Y.loc (bY (gR cl 60) f.body {scope:=f.scope,cells:=lZ (fC f.scope) σ₁.sto.length} {loc:=xH bs (zK f.scope),sto:=σ₁.sto++(fC f.scope).map λ _=>.cell none})
section
variable {d:Nat}{C:Cx}{A:bJ}{ρ:List aR}{s:aD}{Y:St}{en:En}{env:Env}{x:Gi}{h:cG}{cl:Nat->List V->St->aC V}{n:Nat}{ex:Stmt->En->St->aC Fl}
set_option tactic.hygienic true in
theorem Hy{kindOf:Str->Option NameKind}:∀{bs:List (Str×V)}{binds:List (Str×ao)}{l:List (Str×Option V)}{m:Str->Option ao},cX (Kc ρ) bs binds->(∀p∈bs,kindOf p.1=some .local)->xr ρ l m->xr ρ (xH bs l) (bindL kindOf binds m):=by
 intro bs;induction bs with
 |nil=>intro _ l m h _ hl;cases h;exact hl
 |cons p r ih=>
  intro _ l m h hk hl;obtain⟨y,v⟩:=p;cases h with
  |cons h1 h2=>
   rename_i q qs
   obtain⟨z,c⟩:=q;obtain⟨e,hv⟩:=h1;dsimp only at e hv;subst e;have:=hk (y,v) (.head _);dsimp only[xH,bindL];rw[if_pos this];exact ih h2 (λ p hp=>hk p (.tail _ hp)) (hl.set hv)
theorem Fi{sc:Scope}{y:Str}{v:V}(h:(zK sc).lookup y=some (some v)):False:=by
 unfold zK at h;generalize(sc.names.filter λ p=>p.2== .local)=l at h;induction l with
 |nil=>first|exact ns h|exact qW h|cases h
 |cons p l ih=>
  rw[cA,dG]at h;induction q:y==p.1 with
  |true=>rw[q]at h;nomatch h
  |false=>rw[q]at h;exact ih h
theorem N8{ns:List Str}:∀{vs:List V}{cs:List ao},cX (VR ρ) vs cs->cX (Kc ρ) (ns.zip vs) (ns.zip cs):=by
 induction ns with
 |nil=>intro vs cs h;simp;exact .nil
 |cons n ns ih=>
  intro vs cs h;induction h with
  |nil=>simp;exact .nil
  |cons h1 h2=>exact .cons ⟨rfl,h1⟩ (ih h2)
set_option tactic.hygienic true in
theorem abJ{hb:cG}{a:Nat}{f:Fn}{args:List V}{cvs:List ao}{bs:List (Str×V)}{σ₁:St}(F:Yd hb a f)(kb:∀b o,hb.get? b=some o->s.heap.get? b=some o)(R:C.Rep ρ s.heap Y)(hv:cX (VR ρ) args cvs)(hbm:Eu f args Y=some (bs,σ₁))
  {fd:FuncData}(hp:fd.params=f.params) {dl:Option (Array ao)}(hdl:∀M:Model,Looks M hb (seqItems? fd.defaults) dl) (hd1:f.params.defaults.length=1->dl=some #[.none])
  (hQ:∀binds ρ' h',Sub s.heap h'->C.Rep (ρ++ρ') h' σ₁->cX (Kc (ρ++ρ')) bs binds->(∀p∈bs,f.scope.names.lookup p.1=some .local)->σ₁.loc=Y.loc->Q binds {s with heap:=h'}):bI M A' (bindArgs fd ⟨cvs,[]⟩) Q E s:=by
 have hlen:cvs.length=args.length:=hv.length.symm;have hdef:∀{Q:Option (Array ao)->aD->Prop},Q dl s->bI M A' (seqItems? fd.defaults) Q E s:=λ q=>hdl M _ _ _ _ kb q
 have locz:∀{us:List V},∀p∈(f.params.args.map (·.arg)).zip us,f.scope.names.lookup p.1=some .local:=λ p hp=>F.locals p.1 (.inl (Fg hp))
 unfold Eu at hbm;split at hbm
 ·rename_i hc
  simp only[bh,iW,decide_eq_true_eq,lQ]at hc;obtain⟨⟨⟨h1,h2⟩,h3⟩,h4⟩:=hc;split at hbm
  ·rename_i hva
   split at hbm
   ·rename_i hl
    cases hbm;refine Hw (by rw[hp];exact h1) (by rw[hp];exact h2) (by rw[hp];exact h3) (by rw[hp];exact hva) (by rw[hp];exact F.names) (by rw[hp,hlen,hl]) hdef ?_;rw[hp];exact hQ _ [] s.heap (λ _ _ e=>e) (by rw[aW];exact R) (by rw[aW];exact N8 hv) locz rfl
   ·split at hbm
    ·rename_i hl
     rw[bh,decide_eq_true_eq,beq_iff_eq]at hl;cases hbm;rw[hd1 hl.2]at hdef;refine N7 (by rw[hp];exact h1) (by rw[hp];exact h2) (by rw[hp];exact h3) (by rw[hp];exact hva) (by rw[hp];exact F.names) (by rw[hp,hlen,hl.1]) hdef ?_;rw[hp];exact hQ _ [] s.heap (λ _ _ e=>e) (by rw[aW];exact R) (by rw[aW];exact N8 (hv.append (.cons rfl .nil))) locz rfl
    ·first|exact ns hbm|exact qW hbm|cases hbm
  ·rename_i r hva
   split at hbm
   ·rename_i hl
    cases hbm;refine YK (by rw[hp];exact h1) (by rw[hp];exact h2) (by rw[hp];exact h3) (by rw[hp];exact hva) (by rw[hp];exact F.names) (by rw[hp,hlen];exact hl) (by rw[hlen];exact bT h4 (by decide)) hdef ?_;rw[hp];refine hQ _ [s.heap.objs.size] _ (λ _ _ e=>bB _ e) (R.new1 (o:=.tup (args.drop f.params.args.length)) rfl ⟨_,0,rfl,by exact(hv.drop _).mono λ _ _=>VR.mono⟩) ?_ ?_ rfl
    ·refine(N8 (abj hv)).append (.cons ⟨rfl,tM R.lenEq⟩ .nil)
    ·intro p hp';rcases aM.mp hp' with q|q
     ·exact locz p q
     ·rw[aJ.mp q];exact F.locals _ (.inr ⟨r,hva,rfl⟩)
   ·first|exact ns hbm|exact qW hbm|cases hbm
 ·first|exact ns hbm|exact qW hbm|cases hbm
end
section
variable {d:Nat}{C:Cx}{A:bJ}{ρ:List aR}{s:aD}{Y:St}{en:En}{env:Env}{x:Gi}{h:cG}{cl:Nat->List V->St->aC V}
theorem FQ:∀{ns:List Str}{k:Nat}{y:Str}{j:Nat},(lZ ns k).lookup y=some j->∃i,ns[i]?=some y/\j=k+i:=by
 intro ns;induction ns with
 |nil=>exact λ e=>Mine.ns e
 |cons n r ih=>
  intro k y j e;dsimp only[lZ]at e;dsimp only[dG]at e;induction q:y==n with
  |true=>
   rw[q]at e;cases e;exact⟨0,by simp;exact(eq_of_beq q).symm,rfl⟩
  |false=>
   rw[q]at e;obtain⟨i,h1,h2⟩:=ih e;exact⟨i+1,by simpa using h1,by lia⟩
theorem Dh{l:List (Str×aR)}{i:Nat}{p:Str×aR}(hn:(l.map (·.1)).Nodup)(e:l[i]?=some p):l.lookup p.1=some p.2:=by
 induction l generalizing i with
 |nil=>contradiction
 |cons q l ih=>
  rw[cA,fJ]at hn;induction i with
  |zero=>
   simp at e;clear ih;subst e;simp[dG]
  |succ i=>
   simp at e;have:p.1≠q.1:=λ z=>hn.1 (z▸List.mem_map_of_mem (bG e))
   simp only[dG,(by simpa using this:(p.1==q.1)=false)];exact ih hn.2 e
theorem Hz{l:List (Str×aR)}(hn:(l.map (·.1)).Nodup){i:Nat}{p:Str×aR}(e:l[i]?=some p):l.reverse.lookup p.1=some p.2:=by
 have hi:=(aN.mp e).1;refine Dh (i:=l.length - 1 - i) (by rw[List.map_reverse];unfold List.Nodup;rw[List.pairwise_reverse];exact hn.imp λ h=>h.symm) ?_;rw[List.getElem?_reverse (jR (Nat.sub_le ..) (Nat.sub_one_lt_of_lt hi)),Nat.sub_sub_self (Nat.le_sub_one_of_lt hi)];exact e
theorem Um{kindOf:Str->Option NameKind}{y:Str}:∀{bb:List (Str×ao)}{mm:Str->Option ao},(∀q∈bb,kindOf q.1=some .local)->mm y=none->bindC kindOf bb mm y=none:=by
 intro bb;induction bb with
 |nil=>exact λ _ e=>e
 |cons q r ih=>
  intro mm hq e;dsimp only[bindC];rw[if_pos (hq q (.head _))];exact ih (λ q' h'=>hq q' (.tail _ h')) e
structure Gq(f:Fn)(g:cG)(binds:List (Str×ao))(L':aR)(cenv:Env)(hV:cG):Prop where
 scope:cenv.scope=f.scope
 locals:cenv.locals=L'
 globals:cenv.globals=cC
 builtins:cenv.builtins=iG
 frame:cenv.frame=some L'
 cells:cenv.cells=cellsFrom (L'+1) f.scope.names []
 keep:Sub g hV
 fresh:∀b,L'<=b->g.get? b=none
 ns:hV.Ns L' (bindL (λ y=>f.scope.names.lookup y) binds λ _=>none)
 cell:∀y b,(cellsFrom (L'+1) f.scope.names []).lookup y=some b->hV.IsCell b none
theorem Kz{prog:cI}{w:eZ}{RO:Result->aD->Prop}{a:Nat}{f:Fn}{cvs:List ao}{hb:cG}(F:Yd hb a f)(hlim:hb.NoLimit)(kb:Sub hb s.heap)(hdp:A.depth < gP)
  (h:∀{fd:FuncData} {dl},fd.params=f.params->(∀M:Model,Looks M hb (seqItems? fd.defaults) dl)->(f.params.defaults.length=1->dl=some #[.none])->∀Q:List (Str×ao)->aD->Prop,
   (∀binds hH,Sub s.heap hH->(∀p∈binds,f.scope.names.lookup p.1=some .local)->(∀cenv L' hV tk2,Gq f hH binds L' cenv hV->f9 (model prog w) A (.func f.body cenv) RO {s with heap:=hV,toks:=tk2})->Q binds {s with heap:=hH})->
   bI (model prog w) A.in1 (bindArgs fd ⟨cvs,[]⟩) Q (λ e s'=>RO (.error e) s') s):
  f9 (model prog w) A (.call (.ref a) ⟨cvs,[]⟩) RO s:=by
 obtain⟨o,fd,ho,hd,hpar,hbody,hsc,hgl,hcl,hbu,⟨c,oc,vs,tq,c1,c2,c3⟩,dl,hdl,hd1⟩:=F.obj;refine codeAny_call_function hdp (kb _ _ ho) hd (by rw[hsc];exact F.co) (by rw[hsc];exact F.gen) hbody ⟨c,oc,vs,tq,c1,kb _ _ c2,c3⟩ (h hpar hdl hd1 _ λ binds hH hsub hkl k=>?_);rw[hsc,hgl,hcl,hbu];refine wpAny_newFunctionEnv_cells F.kind (λ p hp=>.inl (hkl p hp)) λ cenv hcenv sA x=>?_
 obtain⟨hV,tk2,rfl,hk2⟩:=x.done;refine⟨hlim.keeps λ b o e=>hk2 b o (hsub b o (kb b o e)),k cenv hH.objs.size hV tk2 ?_⟩;subst hcenv;refine⟨rfl,rfl,rfl,rfl,rfl,rfl,hk2,λ b hb=>dg hb,x.toInCall.ns,λ y b e=>?_⟩;have q:=x.cell y b e;rw[Um (kindOf:=Env.kindOf _) hkl rfl]at q;exact q
inductive afz(sc:Scope)(L':aR):Prop
 |mk (cs:List aR) (h1:cs.Nodup) (h2:cs.length=(fC sc).length) (h3:∀b∈cs,L' < b) (h4:∀(i:Nat) y,(fC sc)[i]?=some y->∃b,cs[i]?=some b/\(cellsFrom (L'+1) sc.names []).lookup y=some b)
theorem Un{sc:Scope}(hc:(fC sc).Nodup)(L':aR):afz sc L':=by
 obtain⟨l,hl1,hl2,hl3⟩:=Hx sc.names (L'+1) [];rw[aW]at hl1;have hl2':l.map (·.1)=fC sc:=hl2;refine⟨l.map (·.2),by rw[hl3];exact um.map _ (λ i j (h:i≠j) (e:L'+1+i=L'+1+j)=>h (by lia)) List.nodup_range,by rw[<-hl2',au,au],λ b hb=>?_,λ i y e=>?_⟩
 ·rw[hl3]at hb;obtain⟨j,_,rfl⟩:=dD.mp hb;exact d8 _ _
 ·rw[<-hl2',fU,bx]at e;obtain⟨p,hp,rfl⟩:=e;exact⟨p.2,by rw[fU,hp];rfl,by rw[hl1];exact Hz (by rw[hl2'];exact hc) hp⟩
theorem Gq.rep{C1:Cx}{f:Fn}{g hV:cG}{binds:List (Str×ao)}{L':aR}{cenv:Env}{L:List (Str×Option V)}{S:List O}(X:Gq f g binds L' cenv hV)(hc:(fC f.scope).Nodup)(R:C1.Rep ρ hV ⟨L,S⟩)(hap:∀b,L' < b->jb C1 ρ b/\C1.h₀.get? b=none):
  ∃cs,C1.Rep (ρ++cs) hV ⟨L,S++(fC f.scope).map λ _=>.cell none⟩/\∀y k,(lZ (fC f.scope) S.length).lookup y=some k->∃b,cenv.cells.lookup y=some b/\(ρ++cs)[k]?=some b:=by
 obtain⟨cs,h1,h2,h3,h4⟩:=Un hc L';refine⟨cs,?_,λ y k e=>?_⟩
 ·have:=Rep.addCells R (λ b hb=>?_) h1
  ·rw[show(cs.map λ _=>O.cell none)=(fC f.scope).map λ _=>O.cell none by rw[List.map_const',List.map_const',h2]]at this;exact this
  ·obtain⟨i,hi⟩:=lC hb;obtain⟨b',e,hlk⟩:=h4 i _ (bf (by rw[<-h2];exact(aN.mp hi).1));obtain rfl:=Option.some.inj (e.symm.trans hi);obtain⟨p1,p2⟩:=hap b' (h3 _ hb);exact⟨X.cell _ _ hlk,p1,p2⟩
 ·obtain⟨i,e1,rfl⟩:=FQ e;obtain⟨b,e2,e3⟩:=h4 i y e1;exact⟨b,by rw[X.cells];exact e3,by rw[<-(Mine.Rep.len R),cD (d8 ..),nP];exact e2⟩
theorem Q9{f:Fn}{args:List V}(hbad:wM cl f args Y≠.bad):∃bs σ₁,Eu f args Y=some (bs,σ₁)/\wM cl f args Y=Dg Y.loc (bY (gR cl 60) f.body {scope:=f.scope,cells:=lZ (fC f.scope) σ₁.sto.length} {loc:=xH bs (zK f.scope),sto:=σ₁.sto++(fC f.scope).map λ _=>.cell none}):=by
 unfold wM at hbad ⊢;induction q:Eu f args Y with
 |none=>rw[q]at hbad;exact absurd rfl hbad
 |some pr=>exact⟨pr.1,pr.2,rfl,rfl⟩
set_option tactic.hygienic true in
theorem YQ{C':Cx}{m:Str->Option ao}{L':aR}{ρ1:List aR}{en':En}{cenv:Env}{body:List Stmt}{r:aC Fl}{l:List (Str×Option V)}{hV:cG}{tk2:Nat}(hC':C'.prog=C.prog/\C'.w=C.w/\C'.h₀=C.h₀/\C'.L=L'/\C'.FS=(env,m)::C.FS)(EV':dm C' (A.deeper cenv) (ρ++ρ1) en' cenv)(hown:en'.own=true)(hL:env.locals=C.L)(hl:xr (ρ++ρ1) l m)
  (hb:Dg l r≠.bad) (h:C'.Snd (A.deeper cenv) (execs body cenv) (ρ++ρ1) r vy {s with heap:=hV,toks:=tk2}):
  f9 (model C.prog C.w) A (.func body cenv) (wants (C.Ret ρ s (Dg l r) VR) (C.Exn ρ s (Dg l r))) {s with heap:=hV,toks:=tk2}:=by
 have h:=h λ q=>hb (by rw[q];rfl)
 rw[hC'.1,hC'.2.1]at h;refine codeAny_func (cO h ?_ ?_)
 ·rintro fl s' ⟨fl',Y',h',tk,ρ',rfl,rfl,RE,hf⟩;have RF:C.Rep (ρ++ρ1++ρ') h' {Y' with loc:=l}:=by
   have RE:Mine.Rep C'.prog C'.w C'.h₀ C'.FS C'.L (ρ++ρ1++ρ') h' Y':=RE;simp only[hC'.1,hC'.2.1,hC'.2.2.1,hC'.2.2.2.1,hC'.2.2.2.2]at RE;exact Rep.leave (h:=h') (L':=L') (m:=m) (env:=env) RE hl.mono hL (dO.refl ..)
  rw[aj]at RF hf;induction fl' with
  |next=>subst hf;exact Cx.ret1 RF rfl
  |ret v=>
   obtain⟨c,rfl,hc⟩:=hf;exact Cx.ret1 RF hc
  |brk=>exact absurd rfl hb
  |cont=>exact absurd rfl hb
 ·rintro e s' ⟨x',Y',h',tk,ρ',rfl,rfl,X⟩;refine Q6 hC' (EV'.mono ρ') hown (s:={s with heap:=h',toks:=tk}) X hL hl.mono λ h'' X'=>?_
  rw[aj]at X';exact⟨x',_,h'',tk,ρ1++ρ',rfl,rfl,X'⟩
noncomputable def Cx.callee(C:Cx)(L':aR)(env:Env)(m:Str->Option ao):Cx:={C.inn L' env m with room:=C.room - 1}
theorem KC(hO:zN d cl)(W:yw (d+1) C){A₀:bJ}(EV:dm C A₀ ρ en env)(hown:en.own=true)(hh:A.handled=none)(hfr:A.frames=A₀.frames)(hun:A.units+10*C.room+93 < cLine)(hdp:A.depth+C.room < gP)
  (R:C.Rep ρ s.heap Y) {a:Nat}{f:Fn}{args:List V}{cvs:List ao}(hv:cX (VR ρ) args cvs)
  {hb:cG}(kb:∀b o,hb.get? b=some o->C.h₀.get? b=some o) (F:Yd hb a f) (hlim:hb.NoLimit) (hbad:wM cl f args Y≠.bad):
  f9 (model C.prog C.w) A (.call (.ref a) ⟨cvs,[]⟩) (wants (C.Ret ρ s (wM cl f args Y) VR) (C.Exn ρ s (wM cl f args Y))) s:=by
 have kbs:Sub hb s.heap:=λ b o e=>Mine.Rep.keep R b o (kb b o e)
 obtain⟨bs,σ₁,hbm,e⟩:=Q9 hbad;rw[e]at hbad ⊢;refine Kz F hlim kbs (by lia) λ hpar hdl hd1 Q hQ=>abJ F kbs R hv hbm hpar hdl hd1 λ binds ρ1 hH hsub RA hbinds hloc hσ=>hQ binds hH hsub (λ p hp=>?_) λ cenv L' hV tk2 X=>?_
 ·obtain⟨i,hi⟩:=lC hp;obtain⟨q,hq,h1,_⟩:=hbinds.getR hi;rw[<-h1];exact hloc q (bG hq)
 obtain⟨m,hm,hml⟩:=Mine.Rep.loc RA;have enterR:(C.inn L' env m).Rep (ρ++ρ1) hV {σ₁ with loc:=xH bs (zK f.scope)}:=
  Rep.enter RA hm (X.fresh L' (bV _)) X.keep X.ns (Hy hbinds hloc λ y u e=>(Fi e).elim) EV.locals EV.kind
 obtain⟨cs,RC,hcs⟩:=X.rep F.cells enterR λ b hlt=>by
  have hnb:=X.fresh b (iQ hlt);have ap:=jb.new RA hnb;exact⟨⟨ap.notIn,gb hlt,bO.mpr ⟨λ z=>ap.notL (z.symm.trans EV.locals),ap.notF⟩⟩,jt (λ b o e=>Mine.Rep.keep RA b o e) hnb⟩
 have hdr:=W.2;have EV':dm (C.callee L' env m) (A.deeper cenv) (ρ++ρ1++cs) {scope:=f.scope,cells:=lZ (fC f.scope) σ₁.sto.length} cenv:=by
  refine⟨X.scope,X.scope▸F.kind,X.locals,X.globals,X.builtins,hcs,λ _=>hh,?_,?_,bK (bK EV.files),by have:=EV.stat;simp;exact dh _ (by assumption),λ _=>⟨X.frame,?_,bO.mpr ⟨?_,(EV.own hown).2.2⟩⟩⟩
  ·show A.units+3+100 < cLine;lia
  ·show A.units+3+10*(C.room - 1)+100 < cLine/\A.depth+1+(C.room - 1) < gP;lia
  ·show A.frames.map _=some _;rw[hfr,(EV.own hown).2.1];rfl
  ·show env.frame=some env.locals;rw[(EV.own hown).1,EV.locals]
 rw[aj]at EV' RC;refine YQ (C':=C.callee L' env m) ⟨rfl,rfl,rfl,rfl,rfl⟩ EV' rfl EV.locals (by rw[<-hσ,<-aj];exact hml.mono) hbad (iV (C:=C.callee L' env m) (N5 hO 60 _ _ _ _ ⟨W.1,by show d<=C.room - 1;lia⟩) f.body EV' RC)
theorem akg(hO:zN d cl)(W:yw (d+1) C)(EV:dm C A ρ en env)(hfree:en.free=true)(hown:en.own=true)(R:C.Rep ρ s.heap Y){a:Nat}{f:Fn}{args:List V}{cvs:List ao}(hv:cX (VR ρ) args cvs)
  {hb:cG}(kb:∀b o,hb.get? b=some o->C.h₀.get? b=some o) (F:Yd hb a f) (hlim:hb.NoLimit):C.Snd A (PySem.call (.ref a) cvs) ρ (wM cl f args Y) VR s:=λ hbad=>
 sO (qU (KC hO W EV hown (EV.free hfree) rfl (by have:=EV.room.1;lia) EV.room.2 R hv kb F hlim hbad) λ r s' x=>by
  induction r with
  |error e=>exact x
  |ok f=>induction f<;>exact x)
end
end Mine
set_option maxHeartbeats 4000000
namespace Mine
open PySem PySem.W PySem.Calls PyProof.Rows Builtin Builtin.ObjectAttr Builtin.Getset_descriptor
section
variable {prog:cI}{w:eZ}{A:bJ}{E:ao->aD->Prop}{s:aD}{K:Frag}{x C dx p:aR}{ox od:Obj}{name:Str}{v:ao}{es:List DictEntry}{n i:Nat}{Q:Unit->aD->Prop}
set_option tactic.hygienic true in
theorem abK(X:K.In s.heap)(I:InstAt s.heap x ox C (some (dictOf es n)))(hd:ox.dict=some dx)
  (hs:findIn K (.ref C) "__setattr__"=some (some (.builtin "object.__setattr__"))) (hp:plainOver K C=true) (ht:takerIn K C name=some none) (hh:hasDictIn K C=true)
  (hl:(lookIn name (dictOf es n)).isSome=true) (hz:(putL name (PyData.keyHash w.params name) (.str name (s.toks+1)) v es).length<=1000)
  (h:∀h',dO dx s.heap h'->h'.get? dx=some (dictOf (putL name (PyData.keyHash w.params name) (.str name (s.toks+1)) v es) (putN name es n))->Q () {s with heap:=h',toks:=s.toks+2}):
  bI (model prog w) A (setAttr (.ref x) name v) Q E s:=by
 obtain⟨cd,hc,hd'⟩:=any_some hh;obtain⟨oc,odi,oda,osl⟩:=ox;obtain⟨hh0,g0,d0,t0,os0⟩:=s;dsimp only at X I hl hz h;refine set_plain X I hs ?_;dsimp only;refine osa_open X I hp ht λ b=>?_
 obtain⟨hx,hcl,hn,hdx⟩:=I;clear hn;dsimp only at hcl hd hdx;subst hcl hd;have D:hh0.get? dx=some (dictOf es n):=hdx;refine ak (aB (ak (ak (wpAny_loadPart hx (ak ((looks_clsIn X hc).here ?_))))));rw[hd'];refine aB (a:=some dx) (ak (aB (ak ?_)));refine ak (ak (iY (aB (ak (wpAny_mkText (ak (wpAny_loadPart D ?_)))))));unfold lookIn at hl;dsimp only at hl ⊢;have c:(!es.toArray.any (·.key.isStr name)&&es.toArray.any (·.refKey))=false:=by
  rw[<-pM,<-pM];split at hl
  ·rename_i en he
   rw[vg.mpr ⟨en,List.mem_of_find?_eq_some he,List.find?_some he⟩];rfl
  ·split at hl
   ·first|exact ns hl|exact qW hl|cases hl
   ·rename_i z;rw[Bool.not_eq_true]at z;rw[z,oJ]
 rw[aRefKeyMayBeTheName_at,c];refine wpAny_updatePart D ?_;have e:=putName_dict name (PyData.keyHash w.params name) (.str name (t0+1)) v es n;have D':(hh0.update dx (Obj.putName name (PyData.keyHash w.params name) (.str name (t0+1)) v)).get? dx=some (dictOf (putL name (PyData.keyHash w.params name) (.str name (t0+1)) v es) (putN name es n)):=by
  rw[<-e];exact b8 _ D (by rw[e];rfl)
 refine ak (wpAny_lookBehind D' (pastItsLine_dict (by rw[List.size_toArray,sizeLine_eq];omega)) ?_);exact aB (h _ (cB ..) D')
theorem Uo{od:Option Obj}(X:K.In s.heap)(I:InstAt s.heap x ox C od)
  (hs:findIn K (.ref C) "__setattr__"=some (some (.builtin "object.__setattr__"))) (hp:plainOver K C=true) (ht:takerIn K C name=some (some (.ref p))) (hT:typeIn K (.ref p)=some (.type "member_descriptor")) (hi:slotIn K p C=some i) (hz:i < 1000)
  (hf:({ox with slots:=(ox.slots++qG (i+1 - ox.slots.size) none).setIfInBounds i (some v)}:Obj).isFreed=false)
  (h:∀h',dO x s.heap h'->h'.get? x=some {ox with slots:=(ox.slots++qG (i+1 - ox.slots.size) none).setIfInBounds i (some v)}->Q () {s with heap:=h',toks:=s.toks+1}):
  bI (model prog w) A (setAttr (.ref x) name v) Q E s:=by
 refine set_plain X I hs (osa_descr (s:={s with toks:=s.toks+1}) KF.slot_mset X I hp ht hT (uq λ Gz toG=>?_));obtain⟨hh,g,dr,t,os⟩:=s;obtain⟨n,tn,owner,behind,tb,d,sl,cd,ho,hc,hm,hb,rfl⟩:=slot_of X hi;have L0:=I.type (M:=model prog w);have L1:=looks_mroIn (M:=model prog w) X hm;have L2:Looks (model prog w) hh (Slots.slotNamesOf (.ref C)) cd.slotNames:=(looks_clsIn X hc).andThen .now;have hx:=I.at_;dsimp only at ho hx L0 L1;have f0:=looks_field (M:=model prog w) ho 0 (v:=.str n tn) rfl;have f1:=looks_field (M:=model prog w) ho 1 (v:=owner) rfl;have f3:=looks_field (M:=model prog w) ho 3 (v:=.builtin "proto.slot#set") rfl;have f4:=looks_field (M:=model prog w) ho 4 (v:=.int behind tb) rfl;refine toG<|codeAny_call_builtin KF.slot_mset.plain KF.entry_mset (KF.slot_mset.check _ _ _ _ _ _ _ _ ⟨_,ho,rfl⟩ (KF.args_mset _ _ _) ?_)
 have f5:Looks (model prog w) hh (descrItself (.ref p)) [.ref p]:=((Looks.ld (part:=none) ho).andThen .now).andThen (Looks.of_pure (by kernel_rfl));repeat lk
 refine⟨Code.quiet_builtin _ (by decide+kernel),fK KF.entry_slotset ?_⟩;repeat lk
 rw[if_neg hb];refine aB (ak ?_);unfold setSlotAt;dsimp only;rw[if_neg (by rw[sizeLine_eq];omega)];exact wpAny_updatePart hx (aB (h _ (cB ..) (b8 _ hx hf)))
end
end Mine
namespace Mine
open PySem PySem.W PySem.Calls PyProof.Rows
section
variable {C:Cx}{A:bJ}{ρ:List aR}{s:aD}{Y:St}{en:En}{env:Env}
theorem abL{prog:cI}{w:eZ}{v:ao}{k n:Str}(h:(strKind prog w).is k v=true):v.isStr n=(strKind prog w).is n v:=by
 obtain⟨t,rfl⟩:=Value.isStrOf_shape h;rfl
theorem HB{prog:cI}{w:eZ}{es:Array DictEntry}{ckvs:List (Str×ao)}(hk:KeysOf (strKind prog w) es)(hp:Pairs (strKind prog w) es.toList ckvs)(name:Str)(n:Nat):lookIn name ({cls:=.type "dict",dict:=none,data:=.dict es n,slots:=#[]}:Obj)=some (valueAt ckvs name):=by
 have hall:∀e∈es.toList,e.key.isStr name=(strKind prog w).is name e.key:=λ e he=>by
  obtain⟨k,h1,_⟩:=hk e (lu.mp he);exact abL h1
 have hf:es.toList.find? (·.key.isStr name)=es.toList.find? λ e=>(strKind prog w).is name e.key:=by
  generalize es.toList=l at hall;induction l with
  |nil=>rfl
  |cons a l ih=>
   rw[List.find?_cons,List.find?_cons,hall a (.head _),ih λ e he=>hall e (.tail _ he)]
 have hr:es.toList.any (·.refKey)=false:=by
  rw[List.any_eq_false];intro e he;obtain⟨k,h1,_⟩:=hk e (lu.mp he);obtain⟨t,ht⟩:=Value.isStrOf_shape h1;unfold DictEntry.refKey;rw[ht];simp
 unfold lookIn;dsimp only;rw[hf,<-hp.find name];induction q:es.toList.find? λ e=>(strKind prog w).is name e.key with
 |none=>simp only[hr];rfl
 |some e=>rfl
theorem KD{v:V}{c:ao}(h:VR ρ v c):handedIn c=true:=by
 induction v with
 |none=>subst h;rfl
 |bool b=>subst h;rfl
 |int i=>obtain⟨t,rfl⟩:=h;rfl
 |str x=>obtain⟨t,rfl⟩:=h;rfl
 |ref n=>obtain⟨a,_,rfl⟩:=h;rfl
 |fn a=>subst h;rfl
 |bi b=>subst h;induction b<;>first|rfl|decide+kernel
end
section
variable {C:Cx}{A:bJ}{ρ:List aR}{s:aD}{Y:St}{en:En}{env:Env}
theorem Wf.ko(W:Wf C):∃K:Frag,K.In C.h₀/\Ye K=true:=by
 obtain⟨hb,_,kb,F⟩:=W;obtain⟨K,h1,h2⟩:=F.ko;exact⟨K,h1.keeps kb,h2⟩
structure ahV(K:Frag):Prop where
 c1:Kl K 137 73=true
 c2:Kl K 40 36=true
 dict:hasDictIn K 137=true
 field:∀x,fP.contains x=true->Gm K x=true
 meth:∀p∈yj,T5 K p=true
 slot:∀q∈yu,Nr K q=true
 top:∀p∈G4,keepIn K (.ref p.1)=true
 mth:∀p∈Gj,keepIn K (.ref p.1)=true
theorem Ye.split{K:Frag}(h:Ye K=true):ahV K:=by
 unfold Ye at h;simp only[bh]at h;obtain⟨⟨⟨⟨⟨⟨⟨h1,h2⟩,h3⟩,h4⟩,h5⟩,h6⟩,h7⟩,h8⟩:=h;exact⟨h1,h2,h3,λ x hx=>eX.mp h4 x (by simpa using hx),eX.mp h5,eX.mp h6,eX.mp h7,eX.mp h8⟩
structure Ra(K:Frag)(D:aR)(fI:Nat):Prop where
 get:plainGet K D ""=true
 cls:isClsIn K D=true
 over:plainOver K D=true
 set:findIn K (.ref D) "__setattr__"=some (some (.builtin "object.__setattr__"))
 makes:makesIn K D=true
 init:findIn K (.ref D) "__init__"=some (some (.ref fI))
 fn:isFn K (.ref fI)=true
 keep:keepIn K (.ref D)=true
theorem ju{K:Frag}{D:aR}{fI:Nat}(h:Kl K D fI=true):Ra K D fI:=by
 unfold Kl at h;simp only[bh,beq_iff_eq]at h;obtain⟨⟨⟨⟨⟨⟨⟨h1,h2⟩,h3⟩,h4⟩,h5⟩,h6⟩,h7⟩,h8⟩:=h;exact⟨h1,h2,h3,h4,h5,h6,h7,h8⟩
theorem Uq{K:Frag}{D:aR}(h:plainGet K D ""=true):findIn K (.ref D) "__getattribute__"=some (some (.builtin "object.__getattribute__"))/\findIn K (.ref D) "__getattr__"=some none:=plainGet_of (name:="") h
theorem Oa(R:C.Rep ρ s.heap Y){i d:Nat}{a:aR}{kvs:List (Str×V)}{ep:Nat}(e1:Y.sto[i]?=some (.inst d))(ha:ρ[i]?=some a)(e2:Y.sto[d]?=some (.dict kvs ep)):
  ∃dx es ckvs,ρ[d]?=some dx/\InstAt s.heap a (instObj 137 dx) 137 (some (dictOf es ep))/\KeysOf (strKind C.prog C.w) es.toArray/\Pairs (strKind C.prog C.w) es ckvs/\(ckvs.map (·.1)).Nodup/\cX (Kc ρ) kvs ckvs:=by
 obtain⟨co,h1,dx,h2,rfl⟩:=R.objs _ _ _ e1 ha;obtain⟨co2,h3,es,ckvs,rfl,h4,h5,h6,h7⟩:=R.objs _ _ _ e2 h2;exact⟨dx,es.toList,ckvs,h2,⟨h1,rfl,rfl,by simpa [dictOf]using h3⟩,by simpa using h4,h5,h6,h7⟩
set_option tactic.hygienic true in
theorem HD{x:Str}{k:Nat}(h:Cz x=some k):∃p,(x,p,k)∈yu:=by
 unfold Cz at h;split at h
 ·rename_i e;cases h;rw[eq_of_beq e];exact⟨41,by simp[yu]⟩
 ·split at h
  ·rename_i e;cases h;rw[eq_of_beq e];exact⟨42,by simp[yu]⟩
  ·split at h
   ·rename_i e;cases h;rw[eq_of_beq e];exact⟨43,by simp[yu]⟩
   ·first|exact ns h|exact qW h|cases h
theorem Ax{K:Frag}{x:Str}{p i:Nat}(h:Nr K (x,p,i)=true):findIn K (.ref 40) x=some (some (.ref p))/\specialIn K (.ref p) "__get__"=some (some (.builtin "member_descriptor.__get__"))/\takesIn K (.ref p)=some true/\slotIn K p 40=some i/\
  takerIn K 40 x=some (some (.ref p))/\typeIn K (.ref p)=some (.type "member_descriptor"):=by
 dsimp only[Nr]at h;simp only[bh,beq_iff_eq]at h;obtain⟨⟨⟨⟨⟨h1,h2⟩,h3⟩,h4⟩,h5⟩,h6⟩:=h;exact⟨h1,h2,h3,h4,h5,h6⟩
theorem KH(R:C.Rep ρ s.heap Y){d:Nat}{dx:aR}(hd:ρ[d]?=some dx):∃co,s.heap.get? dx=some co:=by
 obtain⟨hl,_⟩:=aN.mp hd;obtain⟨co,h,_⟩:=R.objs d _ dx (bf (by rw[<-R.lenEq];exact hl)) hd;exact⟨co,h⟩
theorem YS(W:Wf C)(R:C.Rep ρ s.heap Y){i:Nat}{c:ao}{x:Str}(hv:VR ρ (.ref i) c)(hx:∀l j,Y.sto[i]?≠some (.liter l j)):C.Snd A (getAttr c x true) ρ (fu (.ref i) x Y) VR s:=by
 obtain⟨a,ha,rfl⟩:=hv;obtain⟨K,X0,hK⟩:=W.ko;have S:=Ye.split hK;have X:K.In s.heap:=X0.keeps λ b o e=>Mine.Rep.keep R b o e
 refine(Cx.Snd.onS λ o e1=>?_:C.Snd A _ ρ (onS (Y.sto[i]?) (aaO i x Y)) VR s);induction o with
 |inst d=>
  refine .grd λ hf=>.onS λ p e2=>.onS λ v e3=>?_
  obtain⟨kvs,ep⟩:=p;obtain⟨dx,es,ckvs,h1,I,h3,h4,h5,h6⟩:=Oa R e1 ha (oZ e2);have T:=ju S.c1;obtain⟨g1,g2⟩:=Uq T.get;have hfo:=S.field x hf;unfold Gm at hfo;simp only[bh,beq_iff_eq]at hfo;have hl:=HB h3 h4 x ep;have hva:=qb h6 x;rw[show kvs.lookup x=some v from e3]at hva;obtain⟨c,hc,hv⟩:=hva;rw[hc]at hl;exact λ _=>get_value X I g1 (findObj_own S.dict hfo.1 rfl hl) (KD hv) (Cx.ret0 R hv)
 |node di fs=>
  refine .onS λ k hk=>.onS λ o e2=>.onS λ v e3=>?_
  obtain⟨p,hp⟩:=HD hk;obtain⟨q1,q2,q3,q4,q5,q6⟩:=Ax (S.slot _ hp);obtain⟨co,h1,hlen,dx,sl,hdx,rfl,hsl⟩:=R.objs _ _ _ e1 ha;subst e3;obtain⟨cv,h2,hv⟩:=hsl k (some v) e2;have T:=ju S.c2;obtain⟨g1,g2⟩:=Uq T.get;obtain⟨cod,hcod⟩:=KH R hdx;have I:InstAt s.heap a {cls:=.ref 40,dict:=some dx,data:=.plain,slots:=sl} 40 (some cod):=⟨h1,rfl,rfl,hcod⟩;refine λ _=>get_bind X I g1 ?_ g2 (sO (slot_get (s:={s with toks:=s.toks+1}) X I q4 h2 (handed_on (KD hv) (Cx.ret0 R hv))))
  obtain⟨cd,hcd⟩:=Option.isSome_iff_exists.mp T.cls;unfold findObj;simp only[hcd,q1];simp[q2,q3]
 |liter l j=>exact absurd e1 (hx l j)
 |_=>exact .of_bad
end
section
variable {C:Cx}{A:bJ}{ρ:List aR}{s:aD}{Y:St}{en:En}{env:Env}
theorem abM{prog:cI}{w:eZ}{es:List DictEntry}{ckvs:List (Str×ao)}{x:Str}{t:Tok}{c:ao}(hk:KeysOf (strKind prog w) es.toArray)(hp:Pairs (strKind prog w) es ckvs)(hn:(ckvs.map (·.1)).Nodup):
  KeysOf (strKind prog w) (putL x (PyData.keyHash w.params x) (.str x t) c es).toArray/\Pairs (strKind prog w) (putL x (PyData.keyHash w.params x) (.str x t) c es) (stored ckvs x c)/\((stored ckvs x c).map (·.1)).Nodup/\(es.any (·.key.isStr x))=ckvs.any λ kv=>decide (kv.1=x):=by
 have hall:∀e∈es,e.key.isStr x=(strKind prog w).is x e.key:=λ e he=>by
  obtain⟨k,h1,_⟩:=hk e (by simpa using he);exact abL h1
 have hfi:(es.findIdx? λ e=>e.key.isStr x)=es.findIdx? λ e=>(strKind prog w).is x e.key:=by
  clear hk hp;induction es with
  |nil=>rfl
  |cons a l ih=>
   simp only[List.findIdx?_cons,hall a (.head _),ih λ e he=>hall e (.tail _ he)]
 have hkey:(strKind prog w).is x (.str x t)=true:=strKind_is _ _ _ _;have hidx:(es.findIdx? λ e=>(strKind prog w).is x e.key)=ckvs.findIdx? λ kv=>decide (kv.1=x):=hp.findIdx x
 have hany:=any_of_findIdx x es;rw[hfi]at hany;rw[<-putL_find,hfi];induction hi:es.findIdx? λ e=>(strKind prog w).is x e.key with
 |some i=>
  have ha:=any_of_findIdx_some (hidx▸hi);rw[hi]at hany;dsimp only;refine⟨?_,?_,?_,?_⟩
  ·have:=hk.modify i c;simpa using this
  ·rw[stored,if_pos ha];exact hp.modify hn hi c
  ·rw[stored,if_pos ha,keys_map_store];exact hn
  ·rw[<-hany,ha];rfl
 |none=>
  have hnot:x∉ckvs.map (·.1):=not_mem_of_findIdx_none (hidx▸hi);have hna:¬ (ckvs.any λ kv=>decide (kv.1=x))=true:=by
   rw[vg];rintro⟨kv,hkv,he⟩;exact hnot (dD.mpr ⟨kv,hkv,of_decide_eq_true he⟩)
  rw[hi]at hany;dsimp only;refine⟨?_,?_,?_,?_⟩
  ·have:=hk.push hkey c;have eh:PyData.keyHash w.params x=(strKind prog w).hash x:=rfl;rw[eh];simpa using this
  ·rw[stored,if_neg hna];exact hp.append hkey _ c
  ·rw[stored,if_neg hna,aP,cN];refine⟨hn,by simp,?_⟩;intro a ha b hb;rw[cA,gO,aJ]at hb;clear hall hfi hkey hidx hany hi hna;subst hb;exact λ e=>hnot (e▸ha)
  ·rw[<-hany,kI.mpr hna];rfl
theorem abN(x:Str)(hsh:Int)(k c:ao):∀es:List DictEntry,(putL x hsh k c es).length<=es.length+1:=by
 intro es;induction es with
 |nil=>exact bV 1
 |cons e r ih=>
  dsimp only[putL];split
  ·simp
  ·have:=ih;simp;assumption
theorem YT{sl:Array (Option ao)}{fs:List (Option V)}{k:Nat}{u:V}{d:ao}(hsl:∀(j:Nat) (v:Option V),fs[j]?=some v->Hf ρ v (sl[j]?).join)(hlt:k < fs.length)(hu:VR ρ u d){j:Nat}{v:Option V}(e:(fs.set k (some u))[j]?=some v):
  Hf ρ v (((sl++qG (k+1 - sl.size) none).setIfInBounds k (some d))[j]?).join:=by
 by_cases hj:j=k
 ·subst hj;rw[bR hlt]at e;cases e;refine⟨d,?_,hu⟩;rw[Array.getElem?_setIfInBounds_self_of_lt (by simp;omega)];rfl
 ·rw[aY (λ q=>hj q.symm)]at e;have:=hsl j v e;rw[Array.getElem?_setIfInBounds_ne (λ q=>hj q.symm)];have hjoin:((sl++qG (k+1 - sl.size) none)[j]?).join=(sl[j]?).join:=by
   by_cases hjs:j < sl.size
   ·rw[Array.getElem?_append_left hjs]
   ·rw[Array.getElem?_append_right (by lia),Array.getElem?_eq_none (xs:=sl) (by lia),Array.getElem?_replicate];split<;>rfl
  rw[hjoin];exact this
theorem Ob(W:Wf C)(R:C.Rep ρ s.heap Y){i:Nat}{c d:ao}{x:Str}{u:V}(hv:VR ρ (.ref i) c)(hu:VR ρ u d):C.Snd A (setAttr c x d) ρ (dz (.ref i) x u Y) rB s:=by
 obtain⟨a,ha,rfl⟩:=hv;obtain⟨K,X0,hK⟩:=W.ko;have S:=Ye.split hK;have X:K.In s.heap:=X0.keeps λ b o e=>Mine.Rep.keep R b o e
 refine(Cx.Snd.onS λ o e1=>?_:C.Snd A _ ρ (onS (Y.sto[i]?) (Ql i x u Y)) rB s);induction o with
 |inst di=>
  refine .grd λ hf=>.onS λ p e2=>.grd λ hs=>tB λ hkd=>λ _=>?_
  obtain⟨kvs,ep⟩:=p;obtain⟨dx,es,ckvs,h1,I,h3,h4,h5,h6⟩:=Oa R e1 ha (oZ e2);have T:=ju S.c1;obtain⟨k1,k2,k3,k4⟩:=abM (w:=C.w) (prog:=C.prog) (x:=x) (t:=s.toks+1) (c:=d) h3 h4 h5;have hfo:=S.field x hf;unfold Gm at hfo;simp only[bh,beq_iff_eq]at hfo;obtain⟨q1,q2⟩:=Hh h6 (x:=x) hu;have hlen:es.length < 100:=by
   rw[h4.length,<-h6.length];exact of_decide_eq_true hs
  refine abK X I rfl T.set T.over hfo.2 S.dict (by rw[HB h3 h4 x ep];rfl) (bT (abN ..) (bT (pP (iQ hlen)) (by decide))) λ h' hs' hd'=>?_
  refine Cx.ret0 (R.upd hkd h1 hs' hd' ⟨_,stored ckvs x d,?_,k1,k2,k3,q1⟩) trivial;unfold putN;rw[k4,q2]
 |node di fs=>
  refine .onS λ k hk=>.grd λ hlt=>tB λ hki=>λ _=>?_
  replace hlt:=of_decide_eq_true hlt;obtain⟨p,hp⟩:=HD hk;obtain⟨q1,q2,q3,q4,q5,q6⟩:=Ax (S.slot _ hp);obtain⟨co,h1,hlen,dx,sl,hdx,rfl,hsl⟩:=R.objs _ _ _ e1 ha;obtain⟨cod,hcod⟩:=KH R hdx;have T:=ju S.c2;have I:InstAt s.heap a {cls:=.ref 40,dict:=some dx,data:=.plain,slots:=sl} 40 (some cod):=⟨h1,rfl,rfl,hcod⟩;refine Uo X I T.set T.over q5 q6 q4 (by rw[hlen]at hlt;exact m8 hlt (by decide)) rfl λ h' hs' hd'=>?_
  refine Cx.ret0 (R.upd hki ha hs' hd' ⟨by rw[dw];exact hlen,dx,_,hdx,rfl,λ j v e=>?_⟩) trivial;exact YT hsl hlt hu e
 |_=>exact .of_bad
end
section
variable {C:Cx}{A:bJ}{ρ:List aR}{s:aD}{Y:St}{en:En}{env:Env}
theorem kO{α:Type}:∀{l:List (Str×α)}{x:Str}{y:α},l.lookup x=some y->(x,y)∈l:=by
 intro l;induction l with
 |nil=>exact λ e=>ns e
 |cons p r ih=>
  intro x y e;obtain⟨k,v⟩:=p;dsimp only[dG]at e;induction q:x==k with
  |true=>rw[q]at e;cases e;rw[eq_of_beq q];exact .head _
  |false=>rw[q]at e;exact .tail _ (ih e)
theorem Ur(W:Wf C)(R:C.Rep ρ s.heap Y){v:V}{c:ao}{x:Str}{cal:vA}(pl:Sem Bool)(hv:VR ρ v c)(h:pR v x Y=some cal):C.Snd A (getMethod c x pl) ρ (.ok () Y) (λ _ _ p=>p=(xM cal,[c])) s:=by
 intro _;have sV:∀cal,C.Ret ρ s (.ok () Y) (λ _ _ p=>p=(xM cal,[c])) (xM cal,[c]) s:=λ cal=>⟨(),Y,s.heap,s.toks,[],rfl,rfl,by rw[aW];exact R,rfl⟩
 refine uq λ G toG=>?_
 induction v with
 |str y=>
  obtain⟨m,hm,rfl⟩:=bx.mp h;obtain⟨t,rfl⟩:=hv;have all:∀p∈GK,bI (model C.prog C.w) A (getMethod (.str y t) p.1 pl) (C.Ret ρ s (.ok () Y) (λ _ _ q=>q=(xM (.bi p.2),[.str y t]))) (C.Exn ρ s (.ok () Y)) s:=
   bO.mpr ⟨GM.join (sV _),bO.mpr ⟨GM.split (sV _),bO.mpr ⟨GM.startswith (sV _),bO.mpr ⟨GM.endswith (sV _),bO.mpr ⟨GM.rfind (sV _),bO.mpr ⟨GM.rstrip (sV _),bO.mpr ⟨GM.lstrip (sV _),nofun⟩⟩⟩⟩⟩⟩⟩
  exact toG (all (x,m) (kO hm))
 |ref i=>
  obtain⟨o,e1,h⟩:=bk.mp h;obtain⟨a,ha,rfl⟩:=hv;induction o with
  |list xs=>
   obtain⟨cs,n,h1,h2⟩:=R.list e1 ha;obtain⟨m,hm,rfl⟩:=bx.mp h;have nd:∀b,Value.ref a=.ref b->∃o,s.heap.get? b=some o/\o.dict=none:=λ b e=>by cases e;exact⟨_,h1,rfl⟩
   have all:∀p∈CG,bI (model C.prog C.w) A (getMethod (.ref a) p.1 pl) (C.Ret ρ s (.ok () Y) (λ _ _ q=>q=(xM (.bi p.2),[.ref a]))) (C.Exn ρ s (.ok () Y)) s:=
    bO.mpr ⟨getMethod_builtin ⟨_,h1,rfl⟩ F.plainAttrs_list F.slot_list_append F.type_list_append nd (sV _),bO.mpr ⟨getMethod_builtin ⟨_,h1,rfl⟩ F.plainAttrs_list F.slot_list_pop F.type_list_pop nd (sV _),bO.mpr ⟨getMethod_builtin ⟨_,h1,rfl⟩ F.plainAttrs_list F.slot_list_clear F.type_list_clear nd (sV _),nofun⟩⟩⟩
   exact toG (all (x,m) (kO hm))
  |dict kvs ep=>
   obtain⟨ckvs,h1,h2⟩:=R.dict e1 ha;obtain⟨m,hm,rfl⟩:=bx.mp h;have nd:=h1.dictOf.mapOf.noDict;have all:∀p∈CJ,bI (model C.prog C.w) A (getMethod (.ref a) p.1 pl) (C.Ret ρ s (.ok () Y) (λ _ _ q=>q=(xM (.bi p.2),[.ref a]))) (C.Exn ρ s (.ok () Y)) s:=
    bO.mpr ⟨getMethod_builtin h1.dictOf.typeIs F.plainAttrs_dict F.slot_dict_get F.type_dict_get nd (sV _),bO.mpr ⟨getMethod_builtin h1.dictOf.typeIs F.plainAttrs_dict F.slot_dict_values F.type_dict_values nd (sV _),nofun⟩⟩
   exact toG (all (x,m) (kO hm))
  |set xs=>
   obtain⟨co,h1,h2⟩:=R.objs _ _ _ e1 ha;obtain⟨m,hm,rfl⟩:=bx.mp h;obtain⟨hex,_⟩:=h2;have all:∀p∈GP,bI (model C.prog C.w) A (getMethod (.ref a) p.1 pl) (C.Ret ρ s (.ok () Y) (λ _ _ q=>q=(xM (.bi p.2),[.ref a]))) (C.Exn ρ s (.ok () Y)) s:=
    bO.mpr ⟨getMethod_builtin ⟨_,h1,hex.1⟩ F.plainAttrs_set F.slot_set_add F.type_set_add (λ b e=>by cases e;exact⟨_,h1,hex.2.1⟩) (sV _),nofun⟩
   exact toG (all (x,m) (kO hm))
  |inst d=>
   obtain⟨p,e2,h⟩:=bk.mp h;obtain⟨kvs,ep⟩:=p;replace e2:=oZ e2;induction hall:kvs.all (λ p=>fP.contains p.1)with
   |false=>exact ns ((if_neg (show ¬ kvs.all (λ p=>fP.contains p.1)=true by rw[hall];exact cY)).symm.trans h)
   |true=>
   obtain⟨f,hm,rfl⟩:=bx.mp ((if_pos hall).symm.trans h);obtain⟨K,X0,hK⟩:=W.ko;have S:=Ye.split hK;have X:K.In s.heap:=X0.keeps λ b o e=>Mine.Rep.keep R b o e
   obtain⟨dx,es,ckvs,h1,I,h3,h4,h5,h6⟩:=Oa R e1 ha e2;have T:=ju S.c1;obtain⟨g1,g2⟩:=Uq T.get;have hmem:=kO hm;have hmo:=S.meth _ hmem;unfold T5 at hmo;simp only[bh,beq_iff_eq]at hmo;refine toG (method_fn X I g1 g2 hmo.1 (beq_iff_eq.mp hmo.2) ?_ (sV _));unfold shadowIn;dsimp only;rw[show lookIn x (dictOf es ep)=some (valueAt ckvs x)from HB h3 h4 x ep];have hno:kvs.lookup x=none:=by
    induction q:kvs.lookup x with
    |none=>rfl
    |some u=>
     exfalso
     have hk:=kO q;have hf:fP.contains x=true:=eX.mp hall _ hk;have:∀p∈yj,fP.contains p.1=false:=by decide
     rw[this _ hmem]at hf;cases hf
   have:=qb h6 x;rw[hno]at this;rw[this];rfl
  |_=>exact ns h
 |_=>exact ns h
set_option tactic.hygienic true in
theorem W5(W:Wf C)(R:C.Rep ρ s.heap Y){a:Nat}(h:a=137\/a=40\/∃f,rA a=some f):Ey C (.ref a) s.heap:=by
 obtain⟨K,X0,hK⟩:=W.ko;have S:=Ye.split hK;refine keeps_K ?_ s.heap (X0.keeps λ b o e=>Mine.Rep.keep R b o e);rcases h with rfl|rfl|⟨f,hf⟩
 ·exact(ju S.c1).keep
 ·exact(ju S.c2).keep
 ·unfold rA at hf;split at hf
  ·rename_i i e
   have:(a,i)∈G4:=by
    have:∀{l:List (Nat×Nat)},l.lookup a=some i->(a,i)∈l:=by
     intro l;induction l with
     |nil=>intro e;contradiction
     |cons p r ih=>
      obtain⟨k,v⟩:=p;intro e;simp only[dG]at e;induction q:a==k with
      |true=>rw[q]at e;cases e;rw[eq_of_beq q];exact .head _
      |false=>rw[q]at e;exact .tail _ (ih e)
    exact this e
   exact S.top _ this
  ·split at hf
   ·rename_i i j e
    have:∀{l:List (Nat×Nat×Nat)},l.lookup a=some (i,j)->(a,i,j)∈l:=by
     intro l;induction l with
     |nil=>intro e;contradiction
     |cons p r ih=>
      obtain⟨k,v⟩:=p;intro e;simp only[dG]at e;induction q:a==k with
      |true=>rw[q]at e;cases e;rw[eq_of_beq q];exact .head _
      |false=>rw[q]at e;exact .tail _ (ih e)
    exact S.mth _ (this e)
   ·first|exact ns hf|exact qW hf|cases hf
end
section
variable {C:Cx}{A:bJ}{ρ:List aR}{s:aD}{Y:St}{en:En}{env:Env}
theorem afA(R:C.Rep ρ s.heap Y){i:Int}{c:ao}(h:VR ρ (.int i) c):C.Snd A (call (.builtin "abs") [c]) ρ (.ok (.int (if i < 0 then -i else i)) Y) VR s:=by
 obtain⟨t,rfl⟩:=h;exact λ _=>call_abs_int λ u tk=>Cx.ret0 R ⟨u,rfl⟩
theorem Us(R:C.Rep ρ s.heap Y){x:Str}{c:ao}(h:VR ρ (.str x) c)(hs:small x.length=true):C.Snd A (call (.builtin "len") [c]) ρ (.ok (.int x.length) Y) VR s:=by
 obtain⟨t,rfl⟩:=h;have:=jC hs;exact λ _=>P.len_str (by lia) (Cx.ret0 R ⟨_,rfl⟩)
theorem Rb(R:C.Rep ρ s.heap Y){l:Nat}{xs:List V}{c:ao}(h:VR ρ (.ref l) c)(e:Y.sto[l]?=some (.list xs))(hs:small xs.length=true):C.Snd A (call (.builtin "len") [c]) ρ (.ok (.int xs.length) Y) VR s:=by
 obtain⟨a,ha,rfl⟩:=h;obtain⟨cs,n,h1,h2⟩:=R.list e ha;have hz:=gw h2;exact λ _=>call_len_list h1.isList (by rw[hz];exact yq hs) (Cx.ret0 R ⟨_,by rw[hz]⟩)
theorem Ut(R:C.Rep ρ s.heap Y){l:Nat}{xs:List V}{c:ao}(h:VR ρ (.ref l) c)(e:Y.sto[l]?=some (.tup xs))(hs:small xs.length=true):C.Snd A (call (.builtin "len") [c]) ρ (.ok (.int xs.length) Y) VR s:=by
 obtain⟨a,ha,rfl⟩:=h;obtain⟨cs,n,h1,h2⟩:=R.tup e ha;have hz:=gw h2;exact λ _=>len_tuple ⟨_,h1,rfl,_,rfl⟩ (by rw[hz];exact yq hs) (Cx.ret0 R ⟨_,by rw[hz]⟩)
theorem YW(R:C.Rep ρ s.heap Y){n:Int}{c:ao}(h:VR ρ (.int n) c)(h0:0<=n)(h1:n<=1000):C.Snd A (call (.type "range") [c]) ρ (Y.new (.rng n)) VR s:=by
 obtain⟨t,rfl⟩:=h;exact λ _=>call_range_1 (Cx.ret1 (R.new1 (o:=.rng n) rfl ⟨_,_,_,rfl,h0,h1⟩) (tM R.lenEq))
theorem HF(R:C.Rep ρ s.heap Y){x:Str}{c:ao}(h:VR ρ (.str x) c):C.Snd A (call (.builtin "isinstance") [c,.type "bytes"]) ρ (.ok (.bool false) Y) VR s:=by
 obtain⟨t,rfl⟩:=h;exact λ _=>call_isinstance (isinstance_false_str (by decide+kernel) F.isi_meta_bytes F.sub_str_bytes) (Cx.ret0 R rfl)
theorem Rc(R:C.Rep ρ s.heap Y){l:Nat}{xs:List V}{c:ao}(h:VR ρ (.ref l) c)(e:Y.sto[l]?=some (.list xs))(hs:small xs.length=true):C.Snd A (call (.type "tuple") [c]) ρ (Y.new (.tup xs)) VR s:=by
 obtain⟨a,ha,rfl⟩:=h;obtain⟨cs,n,h1,h2⟩:=R.list e ha;refine λ _=>call_tuple_list h1.isList (λ h' hk=>?_) (by rw[gw h2];exact gJ hs)
 exact Cx.ret1 (Cx.Rep.new1 (s:={s with heap:=h'}) (R.junk hk) (o:=.tup xs) rfl ⟨cs,0,rfl,h2.mono λ _ _=>VR.mono⟩) (tM R.lenEq)
theorem abO(R:C.Rep ρ s.heap Y):C.Snd A (call (.type "set") []) ρ (Y.new (.set [])) VR s:=
 λ _=>call_set_0 λ led=>Cx.ret1 (R.new1 (o:=.set []) rfl (setObjOf_fresh led)) (tM R.lenEq)
end
section
variable {C:Cx}{A:bJ}{ρ:List aR}{s:aD}{Y:St}{en:En}{env:Env}
noncomputable def ahW:Bi->String
 |.str=>"str"|.list=>"list"|.tuple=>"tuple"|_=>""
set_option tactic.hygienic true in
theorem Fj(R:C.Rep ρ s.heap Y){v:V}{c:ao}(h:VR ρ v c){b:Bi}(e:JW v Y=some b):s.TypeIs c (ahW b)/\(b=.str\/b=.list\/b=.tuple):=by
 induction v with
 |str x=>
  obtain⟨t,rfl⟩:=h;cases e;exact⟨rfl,.inl rfl⟩
 |ref i=>
  obtain⟨a,ha,rfl⟩:=h;obtain⟨o,e',e⟩:=bk.mp (show Y.get i agE=some b from e);induction o with
  |list xs=>
   cases e;obtain⟨cs,n,h1,h2⟩:=R.list e' ha;exact⟨⟨_,h1,rfl⟩,.inr (.inl rfl)⟩
  |tup xs=>
   cases e;obtain⟨cs,n,h1,h2⟩:=R.tup e' ha;exact⟨⟨_,h1,rfl⟩,.inr (.inr rfl)⟩
  |_=>exact ns e
 |_=>exact ns e
theorem Uu(R:C.Rep ρ s.heap Y){v:V}{c:ao}(h:VR ρ v c){b:Bi}(e:JW v Y=some b):C.Snd A (call (.type "type") [c]) ρ (.ok (.bi b) Y) VR s:=by
 obtain⟨h1,h2⟩:=Fj R h e;clear e;rcases h2 with rfl|rfl|rfl
 ·exact λ _=>call_type_of h1 (by decide+kernel) (Cx.ret0 R rfl)
 ·exact λ _=>call_type_of h1 (by decide+kernel) (Cx.ret0 R rfl)
 ·exact λ _=>call_type_of h1 (by decide+kernel) (Cx.ret0 R rfl)
theorem abP(R:C.Rep ρ s.heap Y){i j:Int}{c c':ao}(h:VR ρ (.int i) c)(h':VR ρ (.int j) c')(hh:A.handled=none):C.Snd A (call (.builtin "min") [c,c']) ρ (.ok (.int (if j < i then j else i)) Y) VR s:=by
 obtain⟨t,rfl⟩:=h;obtain⟨u,rfl⟩:=h';refine λ _=>min_two_ints hh λ h1 tk hk=>Cx.ret0 (R.junk hk) ?_
 by_cases q:j < i
 ·rw[if_pos q,if_pos q];exact⟨_,rfl⟩
 ·rw[if_neg q,if_neg q];exact⟨_,rfl⟩
end
section
variable {C:Cx}{A:bJ}{ρ:List aR}{s:aD}{Y:St}{en:En}{env:Env}
theorem abQ(R:C.Rep ρ s.heap Y){l:Nat}{xs:List V}{c:ao}(h:VR ρ (.ref l) c)(e:Y.sto[l]?=some (.list xs)):
  C.Snd A (call (.type "enumerate") [c]) ρ (({Y with sto:=Y.sto++[.eit l 0]}:St).new (.enum Y.sto.length 0)) VR s:=by
 obtain⟨a,ha,rfl⟩:=h;obtain⟨cs,n,h1,h2⟩:=R.list e ha;have n0:s.heap.get? s.heap.objs.size=none:=dg (bV _);have n1:s.heap.get? (s.heap.objs.size+1)=none:=dg (Nat.le_succ _);refine λ _=>call_enumerate_list h1.isList λ h' he hi hz hk=>?_
 obtain⟨oi,g1,g2,g3⟩:=hi;have k0n:∀b,s.heap.get? b=none->C.h₀.get? b=none:=λ b q=>by
  induction w:C.h₀.get? b with
  |none=>rfl
  |some o=>rw[Mine.Rep.keep R _ _ w]at q;contradiction
 have hl:ρ.length=Y.sto.length:=R.lenEq;have R3:C.Rep (ρ++[s.heap.objs.size,s.heap.objs.size+1]) h' {Y with sto:=Y.sto++[.eit l 0]++[.enum Y.sto.length 0]}:=by
  have:=(Rep.add (Rep.add (R.junk hk) (a:=s.heap.objs.size) (o:=.eit l 0) g1 (jb.new R n0) (k0n _ n0) ⟨a,bK ha,g2,g3⟩) (a:=s.heap.objs.size+1) (o:=.enum Y.sto.length 0) he (jb.add (jb.new R n1) (Nat.succ_ne_self _)) (k0n _ n1) ⟨s.heap.objs.size,.none,by rw[<-hl];simp,rfl⟩);rw[aj]at this;exact this
 refine Cx.ret1 R3 ⟨_,?_,rfl⟩;simp[<-hl]
end
section
variable {C:Cx}{A:bJ}{ρ:List aR}{s:aD}{Y:St}{en:En}{env:Env}
theorem JD(R:C.Rep ρ s.heap Y){v:V}{c ct:ao}{t:Nat}(h:VR ρ v c)(e:JW v Y=some .list)(ht:VR ρ (.ref t) ct)(et:Y.sto[t]?=some (.tup [.bi .list,.bi .tuple])):
  C.Snd A (call (.builtin "isinstance") [c,ct]) ρ (.ok (.bool true) Y) VR s:=by
 obtain⟨h1,-⟩:=Fj R h e;obtain⟨a,ha,rfl⟩:=ht;obtain⟨cs,n,g1,g2⟩:=R.tup et ha;obtain rfl:n=0:=Subsingleton.elim _ _;obtain⟨_,_,ec,u1,u2⟩:=g2.two;rw[u1,u2]at ec;cases CQ ec;have hc:∃b,c=.ref b:=by
  clear h1;induction v with
  |ref i=>obtain⟨b,_,rfl⟩:=h;exact⟨b,rfl⟩
  |_=>first|exact ns e|exact qW e|cases e
 clear h;obtain⟨b,rfl⟩:=hc;have ans:AnswersAll (λ s=>s.TypeIs (.ref b) "list") (.ref b) [.type "list",.type "tuple"] [true,false]:=
  .cons (Answers.of_true F.isi_meta_list F.sub_list_list) (.cons (Answers.of_false_list (by decide+kernel) F.isi_meta_tuple F.sub_list_tuple) .nil)
 exact λ _=>call_isinstance (isinstance_tuple ans) ⟨h1,g1,λ tk=>Cx.ret0 R rfl⟩
theorem abR(R:C.Rep ρ s.heap Y){l:Nat}{xs:List V}{c:ao}(h:VR ρ (.ref l) c)(e:Y.sto[l]?=some (.list xs)):
  C.Snd A (call (.builtin "iter") [c]) ρ (Y.new (.liter l 0)) VR s:=by
 obtain⟨a,ha,rfl⟩:=h;obtain⟨cs,n,h1,h2⟩:=R.list e ha;intro hb;refine call_function_entry (by decide+kernel) (by decide+kernel) (b:=Builtin.«iter») (jH (by kernel_rfl)) (by unfold argsOk;kernel_rfl) ?_;show bI _ _ (pyIter (.ref a) >>= _) _ _ _;refine ak (oK h1.isList ?_);exact aB ⟨_,rfl,Cx.ret1 (R.new1 (o:=.liter l 0) rfl ⟨a,bK ha,rfl,rfl,rfl⟩) (tM R.lenEq)⟩
end
section
variable {C:Cx}{A:bJ}{ρ:List aR}{s:aD}{Y:St}{en:En}{env:Env}
theorem FT(l:aR)(items:Array ao)(hfit:items.size<=1000000):
  Meets (Builtin.«bool.__new__» ⟨[.type "bool",.ref l],[]⟩) (λ _ R s=>s.heap.IsList l items/\R (.ok (.ret (.bool !items.isEmpty))) {s with toks:=s.toks+1+1}):=
 Meets.of_wp λ prog w A R s hs=>by
  obtain⟨h1,h2⟩:=hs;have f1:=F.conv_sub_bool;repeat (any_goals (first|assumption|(with_reducible refine wpAny_truthy_list h1 (by lia) ?_)|wp_step))
  all_goals first|exact⟨_,rfl,h2⟩|exact h2|skip
theorem Oc(R:C.Rep ρ s.heap Y){l:Nat}{xs:List V}{c:ao}(h:VR ρ (.ref l) c)(e:Y.sto[l]?=some (.list xs))(hs:small xs.length=true):
  C.Snd A (call (.type "bool") [c]) ρ (.ok (.bool (!xs.isEmpty)) Y) VR s:=by
 obtain⟨a,ha,rfl⟩:=h;obtain⟨cs,n,h1,h2⟩:=R.list e ha;have hz:=gw h2;have hq:=jC hs;refine λ _=>call_bool_1 (FT a cs (by lia)) ⟨h1.isList,rfl,Cx.ret0 R ?_⟩
 show Value.bool _=Value.bool _;induction xs with
 |nil=>simp[Array.isEmpty,hz]
 |cons x r=>simp[Array.isEmpty,hz]
end
end Mine
namespace Mine
open PySem PySem.W PySem.Calls PyProof.Rows
theorem vJ:builtinKind "issubclass.nested"=none:=by decide+kernel
theorem uF:plainId "issubclass.nested"=true:=by decide+kernel
theorem tU(a b c:ao):argsOk "issubclass.nested" ⟨[a,b,c],[]⟩:=by unfold argsOk;kernel_rfl
theorem FW(dep:Int)(tk:Tok):Meets (Builtin.«issubclass.nested» ⟨[.type "str",.type "str",.int dep tk],[]⟩) (λ _ R s=>R (.ok (.ret (.bool true))) s):=
 Meets.of_wp λ prog w A R s hs=>by
  have hm:=F.isi_meta_str;repeat (any_goals (first|assumption|(rw[F.sub_str_str])|wp_step))
  all_goals first|exact⟨_,rfl,hs⟩|exact hs|skip
theorem Rd{prog:cI}{w:eZ}{A:bJ}{E:ao->aD->Prop}{tp:aR}{cs:List ao}{c:ao}{tk:Tok}{s:aD}{Q:Fin->aD->Prop}(hcs:cs=[.type "str",c])(htp:s.heap.get? tp=some {cls:=.type "tuple",data:=.seq cs.toArray})
  (hq:Q (.done (.ret (.bool true))) s):bI (model prog w) A (Builtin.«issubclass.nested» ⟨[.type "str",.ref tp,.int 0 tk],[]⟩) Q E s:=by
 obtain⟨h,g,d,t,os⟩:=s;have hT2:(⟨h,g,d,t,os⟩:aD).TypeIs (.ref tp) "tuple":=⟨_,htp,rfl⟩;have f1:=F.isi_sub_tuple;repeat (any_goals (first|assumption|wp_step))
 refine xq ?_;dsimp only[Option.getD_some];clear htp;subst hcs;rw[gW];refine ak (ak (call_function_meets vJ uF F.entry_issubclass_nested (tU _ _ _) (FW _ _) ?_));refine ak (aB (aB (aB ?_)));repeat (any_goals (first|assumption|wp_step))
end Mine
namespace Mine
open PySem PySem.W PySem.Calls PyProof.Rows
section
variable {C:Cx}{A:bJ}{ρ:List aR}{s:aD}{Y:St}
theorem Di(tp:aR)(c:ao):Meets (Builtin.«issubclass» ⟨[.type "str",.ref tp],[]⟩) (λ _ R s=>s.heap.get? tp=some {cls:=.type "tuple",data:=.seq #[.type "str",c]}/\R (.ok (.ret (.bool true))) s):=
 λ _ _ _ _ _ hs=>issubclass_outer (Rd rfl hs.1 hs.2)
theorem YX(R:C.Rep ρ s.heap Y){ct:ao}{t:Nat}(ht:VR ρ (.ref t) ct)(et:Y.sto[t]?=some (.tup [.bi .str,.bi .bytes])):
  C.Snd A (call (.builtin "issubclass") [.type "str",ct]) ρ (.ok (.bool true) Y) VR s:=by
 obtain⟨a,ha,rfl⟩:=ht;obtain⟨cs,n,g1,g2⟩:=R.tup et ha;obtain rfl:n=0:=Subsingleton.elim _ _;obtain⟨_,_,ec,u1,u2⟩:=g2.two;rw[u1]at ec;cases CQ ec;exact λ _=>call_issubclass (Di a _) ⟨g1,Cx.ret0 R rfl⟩
end
end Mine
namespace Mine
open PySem PySem.W PySem.Calls PyProof.Rows PySem.Spec
theorem Rf:∀{r:List Str}{p:Str},risingS p r=true->(∀a∈r,tu p a=true)/\r.Pairwise λ a b=>tu a b=true:=by
 intro r;induction r with
 |nil=>exact λ _=>⟨nofun,.nil⟩
 |cons x r ih=>
  intro p h;have h:(!ltCps x.cps.toList p.cps.toList&&risingS x r)=true:=h;rw[bh,ltCps_eq]at h;obtain⟨h1,h2⟩:=ih h.2;have hp:tu p x=true:=h.1;refine⟨λ a ha=>?_,.cons h1 h2⟩;rcases bU.mp ha with rfl|ha
  ·exact hp
  ·exact Ew _ _ _ hp (h1 a ha)
theorem HJ{xs ys:List Str}(hp:ys.Perm xs)(hs:sortedS ys=true):ys=gG xs:=by
 refine Aj hp ?_;induction ys with
 |nil=>exact .nil
 |cons x r=>obtain⟨h1,h2⟩:=Rf (show risingS x r=true from hs);exact .cons h1 h2
section
variable {prog:cI}{w:eZ}{A:bJ}{E:ao->aD->Prop}{s:aD}
theorem Ay{x:ao}{ss:List Str}{Q:ao->aD->Prop}
  (hcol:∀{Q:List ao->aD->Prop} {E},(∀h' tk vs,Sub s.heap h'->StrsAre vs ss->Q vs {s with heap:=h',toks:=tk})->bI (model prog w) A.in1 (collect x) Q E s) (h64:ss.length < 64)
  (h:∀h' h'' tk out e,Sub s.heap h'->Sub h' h''->h'.get? h'.objs.size=none->h''.get? h'.objs.size=some (seqObj "list" out e)->StrsAre out.toList (gG ss)->Q (.ref h'.objs.size) {s with heap:=h'',toks:=tk}):
  bI (model prog w) A (call (.builtin "sorted") [x]) Q E s:=by
 refine Calls.call_function_entry kind_sorted plain_sorted entry_sorted (args_sorted1 _) ?_;refine ak (m:=checkCount "sorted" 1 1 _) (aB ?_);refine ak (hcol λ h' tk vs hk hS=>?_);have hl:vs.length=ss.length:=by rw[<-hS.strs,au]
 refine ak (wpAny_newList ?_ (by rw[sizeLine_eq];lia));have hoL:(h'.push (seqObj "list" vs.toArray 0)).get? h'.objs.size=some (seqObj "list" vs.toArray 0):=bW _ rfl;refine ak (cJ (d7 slot_list_sort ⟨_,hoL,rfl⟩ entry_list_sort
  (list_sort_treeK strKind_oneLt hoL hS.keysOf (λ v1 v2 rest e=>keyKind_strs (by rw[<-e];exact hS)) (by lia) λ st' a1 a2=>⟨_,rfl,?_⟩) (args_list_sort _)))
 obtain⟨ss',h1,h2,h3⟩:=sorted_out_str hS a1 a2;obtain rfl:=HJ h2 h3;obtain⟨e,he⟩:=sortedHeap_at (out:=(arrOf st').map (·.2)) hoL;refine aB ⟨_,rfl,h h' _ tk _ e hk (λ b o q=>?_) (dg (bV _)) he h1⟩;have hb:b < h'.objs.size:=gM q;rw[sortedHeap_old (lN hb) (by rw[size_push'];exact Nat.lt_succ_of_lt hb)];exact bB _ q
end
section
variable {C:Cx}{A:bJ}{ρ:List aR}{s:aD}{Y:St}{en:En}{env:Env}
theorem HN:∀{ss:List Str}{vs:List ao},StrsAre vs ss->cX (VR ρ) (ss.map V.str) vs
 |_,_,.nil=>.nil
 |_,_,.cons x t h=>.cons ⟨t,rfl⟩ (HN h)
set_option tactic.hygienic true in
theorem vK:∀{xs:List V}{ss:List Str}{vs:List ao},jP xs=some ss->cX (VR ρ) xs vs->StrsAre vs ss
 |[],ss,_,e,.nil=>by cases e;exact .nil
 |x::r,ss,_,e,.cons h1 h2=>by
  induction x<;>first|exact ns e|exact qW e|(induction e;done)|skip
  rename_i t
  obtain⟨y,hy,rfl⟩:=bx.mp (show(jP r).map (t::·)=some ss from e);obtain⟨u,rfl⟩:=h1;exact .cons t u (vK hy h2)
theorem HS(R:C.Rep ρ s.heap Y){ss:List Str}{h' h'':cG}{tk e:Nat}{out:Array ao}(k1:Sub s.heap h')(k2:Sub h' h'')(n:h'.get? h'.objs.size=none)(e1:h''.get? h'.objs.size=some (seqObj "list" out e))(e2:StrsAre out.toList (gG ss)):
  C.Ret ρ s (Y.new (.list ((gG ss).map .str))) VR (.ref h'.objs.size) {s with heap:=h'',toks:=tk}:=by
 exact Cx.ret1 (Rep.new (R.junk k1) k2 n e1 ⟨_,_,rfl,HN e2⟩) (tM R.lenEq)
theorem JF(R:C.Rep ρ s.heap Y){l:Nat}{xs:List V}{ss:List Str}{c:ao}(h:VR ρ (.ref l) c)(e:Y.sto[l]?=some (.tup xs))(hs:jP xs=some ss)(h64:ss.length < 64):
  C.Snd A (call (.builtin "sorted") [c]) ρ (Y.new (.list ((gG ss).map .str))) VR s:=by
 obtain⟨a,ha,rfl⟩:=h;obtain⟨cs,n,h1,h2⟩:=R.tup e ha;have hS:=vK hs h2;exact λ _=>Ay (λ hQ=>wpAny_collect_seq (hsz:=by rw[(by rw[<-hS.strs,au,gQ]:cs.size=ss.length),sizeLine_eq];lia) a (.inr rfl) h1 rfl rfl λ h' hk=>hQ h' s.toks _ hk hS) h64 λ h' h'' tk out e k1 k2 n e1 e2=>HS R k1 k2 n e1 e2
set_option tactic.hygienic true in
theorem HX(R:C.Rep ρ s.heap Y)(hA:A.handled=none){l:Nat}{kvs:List (Str×V)}{ep:Nat}{c:ao}(h:VR ρ (.ref l) c)(e:Y.sto[l]?=some (.dict kvs ep))(h64:kvs.length < 64):
  C.Snd A (call (.builtin "sorted") [c]) ρ (Y.new (.list ((gG (kvs.map (·.1))).map .str))) VR s:=by
 obtain⟨a,ha,rfl⟩:=h;obtain⟨ckvs,h1,h2⟩:=R.dict e ha;have hl:=lF h2;refine λ _=>Ay (λ{Q E} hQ=>kdu_collect (A:=A.in1) (kdl_dict (Mine.Rep.sys R _ (bG ha))) hA h1 (by rw[hl,sizeLine_eq];lia) λ h' tk acc hk hacc=>hQ h' tk _ hk ?_) (by rw[au];exact h64) λ h' h'' tk out e k1 k2 n e1 e2=>HS R k1 k2 n e1 e2
 have:∀{kvs:List (Str×V)}{ckvs:List (Str×ao)}{acc:List ao},cX (Kc ρ) kvs ckvs->acc.length=ckvs.length->(∀(j:Nat) (v:ao),acc[j]?=some v->∃k x,ckvs[j]?=some (k,x)/\(strKind C.prog C.w).is k v=true)->StrsAre acc (kvs.map (·.1)):=by
  intro kvs ckvs acc h;induction h generalizing acc with
  |nil=>intro hl _;cases acc with
   |nil=>exact .nil
   |cons=>first|exact ns hl|exact qW hl|contradiction
  |cons h1 h2 ih=>
   intro hl hj;cases acc with
   |nil=>first|exact ns hl|exact qW hl|contradiction
   |cons v acc=>
    obtain⟨k,x,g1,g2⟩:=hj 0 v rfl;cases g1;obtain⟨t,rfl⟩:=Value.isStrOf_shape g2;rw[cA,h1.1];exact .cons _ _ (ih (by simpa using hl) λ j v e=>hj (j+1) v e)
 exact this h2 (by rw[gQ];exact hacc.1) λ j v e=>hacc.2 j v (by rw[<-cV];exact e)
end
end Mine
namespace Mine
open PySem PySem.W PySem.Calls PyProof.Rows PySem.Spec
section
open AutoSeq1 (wpAny_loadPart')
open MeetsSeq MeetsSeq2 MeetsSeq3 PySem.SeqAt
noncomputable def Rh(gt:Bool):CmpOp:=if gt then .Gt else .Lt
noncomputable def Dj(gt:Bool)(x y:List Str):Bool:=if gt then fj y x else fj x y
theorem xQ:∀{vs:List ao}{ss:List Str}(_:StrsAre vs ss) (i:Nat),vs[i]?=none/\ss[i]?=none\/∃x t,vs[i]?=some (.str x t)/\ss[i]?=some x
 |_,_,.nil,i=>.inl ⟨rfl,rfl⟩
 |_,_,.cons x t h,0=>.inr ⟨x,t,rfl,rfl⟩
 |_,_,.cons x t h,i+1=>xQ h i
theorem afB(gt:Bool){prog:cI}{w:eZ}{A:bJ}{E:ao->aD->Prop}{s:aD}{x y:Str}{t u:Tok}{Q:ao->aD->Prop}(h:Q (.bool (if gt then p8 y x else p8 x y)) s):
  bI (model prog w) A (richCompare (Rh gt) (.str x t) (.str y u)) Q E s:=by
 induction gt
 ·exact P.lt_str (by simpa [p8]using h)
 ·exact P.gt_str (by simpa [p8]using h)
noncomputable def Ri(gt:Bool)(m n:Nat):ao:=.bool (if gt then decide (m > n)else decide (m < n))
noncomputable def afC(gt:Bool)(l b:ao)(i:Int):Sem Fin:=do
 let xs <-dj l
 let ys <-dj b
 match xs[i.toNat]?,ys[i.toNat]? with
 |some x,some y=>do
  if <-eqBool x y then return <-again (.builtin "list.__eq__.loop" ⟨[l,b,rawInt (i+1),rawInt (if gt then 4 else 0)],[]⟩)
  let xs <-dj l
  let ys <-dj b
  match xs[i.toNat]?,ys[i.toNat]? with
  |some x,some y=>ret (<-richCompare (Rh gt) x y)
  |_,_=>rule "list.compare.shrunk";ret (Ri gt xs.size ys.size)
 |_,_=>do
  let xs <-dj l
  let ys <-dj b
  ret (Ri gt xs.size ys.size)
theorem pA{α β:Type}(x:Sem α){f g:α->Sem β}(h:∀a,f a=g a):(x >>= f)=(x >>= g):=by rw[show f=g from funext h]
theorem KJ(gt:Bool)(l b:ao)(i:Int):Builtin.«list.__eq__.loop» ⟨[l,b,rawInt i,rawInt (if gt then 4 else 0)],[]⟩=afC gt l b i:=by
 induction gt
 all_goals
  refine pA (dj l) λ xs=>pA (dj b) λ ys=>?_
  induction xs[i.toNat]?<;>induction ys[i.toNat]?<;>first|rfl|skip
  refine pA (eqBool _ _) λ c=>?_
  induction c
  ·refine pA (dj l) λ xs=>pA (dj b) λ ys=>?_
   induction xs[i.toNat]?<;>induction ys[i.toNat]?<;>rfl
  ·rfl
theorem abS(gt:Bool)(l b:aR)(cs cs2:Array ao)(n n2:Nat)(xs ys:List Str)(h1:StrsAre cs.toList xs)(h2:StrsAre cs2.toList ys)(k:Nat):
  ∀i:Nat,xs.length - i=k->i<=xs.length->i<=ys.length->Meets (Builtin.«list.__eq__.loop» ⟨[.ref l,.ref b,rawInt i,rawInt (if gt then 4 else 0)],[]⟩)
   (λ _ R s=>s.heap.get? l=some {cls:=.type "list",dict:=none,data:=.seq cs n,slots:=#[]}/\s.heap.get? b=some {cls:=.type "list",dict:=none,data:=.seq cs2 n2,slots:=#[]}/\
    R (.ok (.ret (.bool (Dj gt (xs.drop i) (ys.drop i))))) s):=by
 have z1:cs.size=xs.length:=by rw[<-h1.strs,au,gQ]
 have z2:cs2.size=ys.length:=by rw[<-h2.strs,au,gQ]
 have ends:∀i,i<=xs.length->i<=ys.length->(xs.drop i=[]\/ys.drop i=[])->Dj gt (xs.drop i) (ys.drop i)=if gt then decide (cs.size > cs2.size)else decide (cs.size < cs2.size):=by
  intro i hx hy h;have l1:(xs.drop i).length=xs.length - i:=eY;have l2:(ys.drop i).length=ys.length - i:=eY;rw[z1,z2];cases q:xs.drop i<;>cases q':ys.drop i<;>rw[q]at l1<;>rw[q']at l2<;>simp at l1 l2<;>first|(simp_all;done)|(induction gt<;>simp[Dj,fj]<;>lia)
 induction k with
 |zero=>
  intro i hk hix hiy prog w A R s h;obtain⟨hp,g,d,tk,os⟩:=s;obtain⟨hl,hb,h⟩:=h;have hx:xs.drop i=[]:=cP (by lia);rw[ends i hix hiy (.inl hx)]at h;rw[KJ];refine ak (iR hl rfl (ak (iR hb rfl ?_)));rw[(by rw[fH,z1];simp;lia:cs[((i:Nat):Int).toNat]?=none)];exact ak (iR hl rfl (ak (iR hb rfl (aB h))))
 |succ k ih=>
  intro i hk hix hiy prog w A R s h;obtain⟨hp,g,d,tk,os⟩:=s;obtain⟨hl,hb,h⟩:=h;obtain⟨q1,q2⟩|⟨x,t,q1,q2⟩:=xQ h1 i
  ·rw[cU]at q2;lia
  rw[cV]at q1;have q1':cs[((i:Nat):Int).toNat]?=some (.str x t):=q1;rw[KJ];refine ak (iR hl rfl (ak (iR hb rfl ?_)));obtain⟨q3,q4⟩|⟨y,u,q3,q4⟩:=xQ h2 i
  ·rw[cV]at q3;have q3':cs2[((i:Nat):Int).toNat]?=none:=q3;rw[ends i hix hiy (.inr (cP (cU.mp q4)))]at h;rw[q1',q3'];exact ak (iR hl rfl (ak (iR hb rfl (aB h))))
  ·rw[cV]at q3;have q3':cs2[((i:Nat):Int).toNat]?=some (.str y u):=q3;have hsome:=aN.mp q4;rw[(by rw[eF (by lia),(aN.mp q2).2]:xs.drop i=x::xs.drop (i+1)),eF hsome.1,hsome.2]at h;have step:Dj gt (x::xs.drop (i+1)) (y::ys.drop (i+1))=if decide (x=y)then Dj gt (xs.drop (i+1)) (ys.drop (i+1))else if gt then p8 y x else p8 x y:=by
    clear q3 q4 q3' hsome;clear ends ih h;by_cases e:x=y
    ·subst e;induction gt<;>simp[Dj,fj]
    ·have e':¬ y=x:=λ z=>e z.symm
     induction gt<;>simp[Dj,fj,e,e']
   rw[step]at h;have eqS:EqAt A.in1 ⟨hp,g,d,tk,os⟩ (.str x t) (.str y u) (decide (x=y)):=SeqAt.EqAt.str_str x t y u;rw[q1',q3'];refine ak (eqS prog w _ _ ?_);by_cases e:x=y
   ·rw[decide_eq_true e]at h ⊢;rw[if_pos rfl]at h ⊢;rw[(by push_cast;rfl:((i:Int)+1)=((i+1:Nat):Int))];exact aB ⟨fY plain_eq_loop _,fK entry_eq_loop (by rw[Around.under_plainId plain_eq_loop _];exact ih (i+1) (by lia) (by lia) hsome.1 prog w A R ⟨hp,g,d,tk,os⟩ ⟨hl,hb,h⟩)⟩
   ·rw[decide_eq_false e]at h ⊢;rw[if_neg cY]at h ⊢;refine ak (iR hl rfl (ak (iR hb rfl ?_)));rw[q1',q3'];exact ak (afB gt (aB h))
end
end Mine
namespace Mine
open PySem PySem.W PySem.Calls PyProof.Rows PySem.Spec
section
open MeetsSeq MeetsSeq2 MeetsSeq3
noncomputable abbrev uG(cs:Array ao)(n:Nat):Obj:={cls:=.type "list",dict:=none,data:=.seq cs n,slots:=#[]}
noncomputable def alS(gt:Bool):Builtin:=if gt then Builtin.«list.__gt__» else Builtin.«list.__lt__»
theorem YZ(gt:Bool)(l b:aR)(cs cs2:Array ao)(n n2:Nat)(xs ys:List Str)(h1:StrsAre cs.toList xs)(h2:StrsAre cs2.toList ys):
  Meets (alS gt ⟨[.ref l,.ref b],[]⟩) (λ _ R s=>s.heap.get? l=some (uG cs n)/\s.heap.get? b=some (uG cs2 n2)/\R (.ok (.ret (.bool (Dj gt xs ys)))) s):=by
 intro prog w A R s h;have sV:f9 (model prog w) A (.builtin "list.__eq__.loop" ⟨[.ref l,.ref b,rawInt 0,rawInt (if gt then 4 else 0)],[]⟩) R s:=
  fK entry_eq_loop (by rw[Around.under_plainId plain_eq_loop _];exact abS gt l b cs cs2 n n2 xs ys h1 h2 _ 0 rfl (dR _) (dR _) prog w A R s h)
 obtain⟨hl,hb,h⟩:=h;have f3:=AutoSeq1.sub_list_list;clear h;induction gt
 ·show bI _ _ (Builtin.«list.__lt__» _) _ _ _;wp_walk
  exact⟨fY plain_eq_loop _,sV⟩
 ·show bI _ _ (Builtin.«list.__gt__» _) _ _ _;wp_walk
  exact⟨fY plain_eq_loop _,sV⟩
variable {prog:cI}{w:eZ}{A:bJ}{E:ao->aD->Prop}{s:aD}
theorem abT(gt:Bool){l b:aR}{cs cs2:Array ao}{n n2:Nat}{xs ys:List Str}(h1:StrsAre cs.toList xs)(h2:StrsAre cs2.toList ys)(hl:s.heap.get? l=some (uG cs n))(hb:s.heap.get? b=some (uG cs2 n2))(hu:A.units < cLine)
  {Q:ao->aD->Prop}(h:Q (.bool (Dj gt xs ys)) s):bI (model prog w) A (richCompare (Rh gt) (.ref l) (.ref b)) Q E s:=by
 have hT:s.TypeIs (.ref l) "list":=⟨_,hl,rfl⟩;have hT':s.TypeIs (.ref b) "list":=⟨_,hb,rfl⟩;have m:=YZ gt l b cs cs2 n n2 xs ys h1 h2;induction gt
 ·exact richCompare_meets_room hT hT' PySem.F.slot_list_lt PySem.F.entry_list_lt (PySem.F.args_list_lt_2 _ _) m ⟨hl,hb,nofun,h⟩ hu
 ·exact richCompare_meets_room hT hT' PySem.F.slot_list_gt PySem.F.entry_list_gt (PySem.F.args_list_gt_2 _ _) m ⟨hl,hb,nofun,h⟩ hu
end
end Mine
namespace Mine
open PySem PySem.W PySem.Calls PyProof.Rows PySem.Spec
noncomputable def abU(name:String)(op:CmpOp)(it:ao)(best:aR):Sem Fin:=do
 let old:=((<-seqItems? (.ref best)).getD #[]).toList
 let failing {α:Type}(first:List ao) (m:Sem α):Sem α:=m.tryCatch λ e=>do
  updateSeq best λ _=>#[]
  letGo (first++old.reverse) [e]
  throw e
 match <-failing [] (pyNext it)with
 |none=>
  match old with
  |[item,val]=>updateSeq best λ _=>#[];letGo [val] [item];ret item
  |_=>rule s!"{name}.empty";raiseError "ValueError" s!"{name}() iterable argument is empty"
 |some item=>
  let val <-pure item
  match old with
  |[oldItem,oldVal]=>
   let better <-failing [val,item]<|PySem.holding [item,val] do
    let answer <-richCompare op val oldVal
    let yes <-PySem.holding [answer] (truthy answer)
    letGo [answer]
    pure yes
   if better then
    updateSeq best λ _=>#[item,val]
    letGo [oldVal,oldItem]
   else letGo [item,val]
  |_=>updateSeq best λ _=>#[item,val]
  again (.builtin s!"{name}.loop" ⟨[it,.none,.ref best],[]⟩)
noncomputable def Uv(gt:Bool):String:=if gt then "max" else "min"
noncomputable def Y0(gt:Bool):String:=if gt then "max.loop" else "min.loop"
noncomputable def mmB(gt:Bool):Builtin:=if gt then Builtin.«max.loop» else Builtin.«min.loop»
theorem afD(gt:Bool)(it:ao)(best:aR):mmB gt ⟨[it,.none,.ref best],[]⟩=abU (Uv gt) (Rh gt) it best:=by
 induction gt
 all_goals
  refine pA (seqItems? (.ref best)) λ q=>?_
  refine pA (Sem.tryCatch (pyNext it) _) λ r=>?_
  induction r
  ·dsimp only;generalize(q.getD #[]).toList=old;rcases old with _|⟨a,_|⟨b,_|⟨c,r⟩⟩⟩<;>rfl
  ·rfl
section
variable {prog:cI}{w:eZ}{A:bJ}{E:ao->aD->Prop}{s:aD}
theorem Od(gt:Bool){it:ao}{best:aR}{R:Result->aD->Prop}(h:bI (model prog w) A.in1 (abU (Uv gt) (Rh gt) it best) (λ sV s'=>match sV with
  |.done f=>R (.ok f) s'
  |.again c=>c.quiet=true/\f9 (model prog w) A c R s') (λ e s'=>R (.error e) s') s):f9 (model prog w) A (.builtin (Y0 gt) ⟨[it,.none,.ref best],[]⟩) R s:=by
 rw[<-afD]at h;induction gt
 ·show f9 _ _ (.builtin "min.loop" _) _ _;exact fK PySem.F.entry_min_loop (by rw[Around.under_plainId PySem.F.plain_min_loop _];exact h)
 ·show f9 _ _ (.builtin "max.loop" _) _ _;exact fK PySem.F.entry_max_loop (by rw[Around.under_plainId PySem.F.plain_max_loop _];exact h)
theorem Rj(gt:Bool)(args:Args):(Code.builtin (toString (Uv gt)++toString ".loop") args)=.builtin (Y0 gt) args:=by induction gt<;>rfl
theorem HY(gt:Bool)(args:Args):(Code.builtin (Y0 gt) args).quiet=true:=by
 induction gt
 ·exact fY PySem.F.plain_min_loop _
 ·exact fY PySem.F.plain_max_loop _
theorem abV(gt:Bool)(hh:A.handled=none){l S I:aR}{items:Array ao}{v:ao}{c:Nat}(hl:s.heap.IsList l items)(hI:s.heap.IsListIter I l items.size)(hS:s.heap.get? S=some (uG #[v,v] c))(hSI:S≠I){R:Result->aD->Prop}
  (hR:∀h',(∀d o,d≠I->d≠S->s.heap.get? d=some o->h'.get? d=some o)->R (.ok (.ret v)) {s with heap:=h'}):
  f9 (model prog w) A (.builtin (Y0 gt) ⟨[.ref I,.none,.ref S],[]⟩) R s:=by
 refine Od gt ?_;refine ak (jf hS rfl ?_);refine ak (sS (wpAny_pyNext_list_end hh hI hl (by simp) λ h1 hs1=>?_));exact ak (jX (hs1 _ _ hSI hS) rfl (ak (qj (aB (hR _ λ d o n m e=>(eO _ _ (Ne.symm m)).trans (hs1 d o n e))))))
theorem ahX(gt:Bool)(hh:A.handled=none)(hu:A.units+10 < cLine){l a b S I:aR}{ca cb:Array ao}{na nb c:Nat}{xs ys:List Str}(hx:StrsAre ca.toList xs)(hy:StrsAre cb.toList ys)
  (hl:s.heap.IsList l #[.ref a,.ref b]) (ha:s.heap.get? a=some (uG ca na)) (hb:s.heap.get? b=some (uG cb nb)) (hI:s.heap.IsListIter I l 0) (hS:s.heap.get? S=some (uG #[] c))
  (hSl:S≠l) (hSa:S≠a) (hSb:S≠b) (hSI:S≠I) (hIl:I≠l) (hIa:I≠a) (hIb:I≠b) {R:Result->aD->Prop}
  (hR:∀h',(∀d o,d≠I->d≠S->s.heap.get? d=some o->h'.get? d=some o)->R (.ok (.ret (.ref (if Dj gt ys xs then b else a)))) {s with heap:=h'}):
  f9 (model prog w) A (.builtin (Y0 gt) ⟨[.ref I,.none,.ref S],[]⟩) R s:=by
 refine Od gt ?_;refine ak (jf hS rfl ?_);refine ak (sS (oM hI hl (x:=.ref a) rfl λ h1 hI1 hs1=>?_));have k1:∀d o,d≠I->s.heap.get? d=some o->h1.get? d=some o:=λ d o n e=>(hs1.2 d n).trans e
 refine ak (aB ?_);have hS1:=k1 S _ hSI hS;refine ak (jX hS1 rfl ?_);rw[Rj];refine aB ⟨HY gt _,Od gt ?_⟩;have hS2:=b8 (Obj.mapSeq λ _=>#[Value.ref a,Value.ref a]) hS1 rfl;generalize hh2:h1.update S (Obj.mapSeq λ _=>#[Value.ref a,Value.ref a])=h2 at*;have k2:∀d o,d≠I->d≠S->s.heap.get? d=some o->h2.get? d=some o:=λ d o n m e=>by rw[<-hh2];exact(eO _ _ (Ne.symm m)).trans (k1 d o n e)
 refine ak (jf hS2 rfl ?_);refine ak (sS (oM (s:={s with heap:=h2}) (by obtain⟨o,e,x⟩:=hI1;exact⟨o,by rw[<-hh2];exact(eO _ _ hSI).trans e,x⟩) (hl.at λ o e=>k2 _ _ (Ne.symm hIl) (Ne.symm hSl) e) (x:=.ref b) rfl λ h3 hI3 hs3=>?_));have k3:∀d o,d≠I->d≠S->s.heap.get? d=some o->h3.get? d=some o:=λ d o n m e=>(hs3.2 d n).trans (k2 d o n m e)
 have hS3:=(hs3.2 S hSI).trans hS2;have hl3:h3.IsList l #[.ref a,.ref b]:=hl.at λ o e=>k3 _ _ (Ne.symm hIl) (Ne.symm hSl) e
 refine ak (aB ?_);refine ak (sS (cJ (ak (abT (s:={s with heap:=h3}) gt hy hx (k3 _ _ (Ne.symm hIb) (Ne.symm hSb) hb) (k3 _ _ (Ne.symm hIa) (Ne.symm hSa) ha) (by show A.units+1 < cLine;lia) ?_))));refine ak (cJ (tK ?_));refine ak (qj (aB ?_));rw[Rj];induction q:Dj gt ys xs with
 |true=>
  rw[q]at hR;refine ak (jX hS3 rfl (ak (qj (aB ⟨HY gt _,?_⟩))));refine abV gt hh (s:={s with heap:=h3.update S (Obj.mapSeq λ _=>#[Value.ref b,Value.ref b])}) (hl3.at λ o e=>(eO _ _ hSl).trans e) (v:=.ref b) ?_ (b8 _ hS3 rfl) hSI λ h' k=>hR h' λ d o n m e=>k d o n m ?_
  ·obtain⟨o,e,x⟩:=hI3;exact⟨o,(eO _ _ hSI).trans e,x⟩
  ·exact(eO _ _ (Ne.symm m)).trans (k3 d o n m e)
 |false=>
  rw[q]at hR;refine ak (qj (aB ⟨HY gt _,?_⟩));exact abV gt hh (s:={s with heap:=h3}) hl3 (v:=.ref a) hI3 hS3 hSI λ h' k=>hR h' λ d o n m e=>k d o n m (k3 d o n m e)
end
section
variable {prog:cI}{w:eZ}{A:bJ}{E:ao->aD->Prop}{s:aD}
noncomputable def mmV(gt:Bool):ao:=if gt then .builtin "max" else .builtin "min"
theorem afE(gt:Bool){x:ao}{Q:ao->aD->Prop}
  (h:bI (model prog w) A.in1 (pyIter x) (λ it sA=>∀S hW,hW=sA.heap.push (uG #[] 0)->S=sA.heap.objs.size->f9 (model prog w) A (.builtin (Y0 gt) ⟨[it,.none,.ref S],[]⟩) (wants Q E) {sA with heap:=hW}) E s):
  bI (model prog w) A (call (mmV gt) [x]) Q E s:=by
 induction gt
 ·refine call_function_tree PySem.F.kind_min PySem.F.plain_min PySem.F.entry_min (PySem.F.args_min1 _) ?_;refine ak (nO (show Builtin.Builtins.bindParams "min" ["key","default"] 0 ⟨[],[]⟩=pure [none,none]from rfl) ?_);refine ak (aB ?_);refine ak (cO h (λ it sA hV=>?_) λ _ _ e=>e);refine ak (fQ ?_);exact aB ⟨fY PySem.F.plain_min_loop _,hV _ _ rfl rfl⟩
 ·refine call_function_tree PySem.F.kind_max PySem.F.plain_max PySem.F.entry_max (PySem.F.args_max1 _) ?_;refine ak (nO (show Builtin.Builtins.bindParams "max" ["key","default"] 0 ⟨[],[]⟩=pure [none,none]from rfl) ?_);refine ak (aB ?_);refine ak (cO h (λ it sA hV=>?_) λ _ _ e=>e);refine ak (fQ ?_);exact aB ⟨fY PySem.F.plain_max_loop _,hV _ _ rfl rfl⟩
end
section
variable {C:Cx}{A:bJ}{ρ:List aR}{s:aD}{Y:St}{en:En}{env:Env}
theorem ahY(gt:Bool)(R:C.Rep ρ s.heap Y)(hA:A.handled=none)(hu:AUn A){l i j:Nat}{vs us:List V}{xs ys:List Str}{c:ao}(h:VR ρ (.ref l) c)(e:Y.sto[l]?=some (.list [.ref i,.ref j]))
  (e1:Y.sto[i]?=some (.list vs)) (e2:Y.sto[j]?=some (.list us)) (h1:jP vs=some xs) (h2:jP us=some ys):
  C.Snd A (call (mmV gt) [c]) ρ (.ok (.ref (if Dj gt ys xs then j else i)) Y) VR s:=by
 obtain⟨a,ha,rfl⟩:=h;obtain⟨cs,n,g1,g2⟩:=R.list e ha;obtain⟨_,_,ec,⟨b,hb,rfl⟩,⟨d,hd,rfl⟩⟩:=g2.two;obtain⟨cb,nb,b1,b2⟩:=R.list e1 hb;cases CQ ec;obtain⟨cd,nd,d1,d2⟩:=R.list e2 hd;intro _;have lt:∀{x:aR}{o:Obj},s.heap.get? x=some o->x < s.heap.objs.size:=gM;refine afE gt (oK (IsL.isList g1) λ S hW e3 eS=>?_);have z:(s.heap.push {cls:=.type "list_iterator",data:=.fields #[.ref a,.int 0 0]}).objs.size=s.heap.objs.size+1:=jJ ..;replace eS:S=s.heap.objs.size+1:=eS.trans z;have k:∀x o,s.heap.get? x=some o->hW.get? x=some o:=λ x o e=>by rw[e3];exact bB _ (bB _ e)
 have hI:hW.get? s.heap.objs.size=some {cls:=.type "list_iterator",data:=.fields #[.ref a,.int 0 0]}:=by rw[e3];exact bB _ (bW _ rfl)
 have ne:∀{x:aR}{o:Obj},s.heap.get? x=some o->S≠x/\s.heap.objs.size≠x:=λ e=>⟨by rw[eS];exact gb (Nat.lt_succ_of_lt (lt e)),gb (lt e)⟩
 refine ahX gt (s:={s with heap:=hW}) (l:=a) (a:=b) (b:=d) (S:=S) (I:=s.heap.objs.size) (ca:=cb) (cb:=cd) hA (by have:A.units+100 < cLine:=hu;show A.units+10 < cLine;lia)
  (vK h1 b2) (vK h2 d2) ((IsL.isList g1).at λ o e=>k _ _ e) (k _ _ b1) (k _ _ d1) ⟨_,hI,rfl,rfl⟩ (by rw[eS,e3,<-z];exact bW _ rfl) (ne g1).1 (ne b1).1 (ne d1).1 (by rw[eS];exact Nat.succ_ne_self _) (ne g1).2 (ne b1).2 (ne d1).2 λ h' hk=>?_
 refine Cx.ret0 (R.junk λ x o e=>hk x o (Ne.symm (ne e).2) (Ne.symm (ne e).1) (k x o e)) ?_;induction Dj gt ys xs
 ·exact⟨b,hb,rfl⟩
 ·exact⟨d,hd,rfl⟩
end
noncomputable abbrev Az(it:aR):Obj:={cls:=.type "method-wrapper",dict:=none,data:=.fields #[.builtin "list_iterator.__next__",.ref it],slots:=#[]}
theorem agV(it:aR):checkBoundCall "list_iterator.__next__" ⟨[.ref it],[]⟩=pure ():=by kernel_rfl
theorem Rk:plainId "list_iterator.__next__"=true:=by decide+kernel
section
variable {prog:cI}{w:eZ}{A:bJ}{E:ao->aD->Prop}{s:aD}
theorem Y4{x it:aR}(hx:s.heap.get? x=some (Az it)){Q:ao->aD->Prop}
  (h:bI (model prog w) A.in1 (Builtin.«list_iterator.__next__» ⟨[.ref it],[]⟩) (λ sV s'=>∃v,sV=.done (.ret v)/\Q v s') E s):bI (model prog w) A (call (.ref x) []) Q E s:=by
 refine sO (xj ?_);refine ak (wpAny_load hx ?_);refine ak (aB (aB ⟨fY Rk _,fK entry_listiter_next ?_⟩));exact cO h (λ _ _ ⟨_,e,q⟩=>by rw[e];exact q) λ _ _ q=>q
end
section
variable {C:Cx}{A:bJ}{ρ:List aR}{s:aD}{Y:St}{en:En}{env:Env}
theorem Y5{x it:aR}{h:cG}(hx:h.get? x=some (Az it)):Ey C (.ref x) h:=by
 refine⟨.machine,.inr (.inl rfl),λ A Q E s k q=>?_⟩;refine ak (wpAny_load (k _ _ hx) ?_);exact aB q
theorem H8(f:Array ao->Array ao)(o:Obj):(Obj.mapFields f o).dict=o.dict:=by
 obtain⟨_,_,d,_⟩:=o;induction d<;>rfl
theorem abW(R:C.Rep ρ s.heap Y)(hA:A.handled=none){k:Nat}{c:ao}(h:VR ρ (.ref k) c):C.Snd A (call c []) ρ (JZ k Y) VR s:=by
 obtain⟨x,hx,rfl⟩:=h;refine .onS λ it e=>.onS λ p e1=>.onS λ xs e2=>.grd λ hs=>?_
 obtain⟨l,i⟩:=p;obtain⟨co,g1,ita,g2,rfl⟩:=R.objs _ _ _ (uy (g:=.bnext) (λ _ _=>Kd) e) hx;obtain⟨ci,c1,la,c2,c3,c4,c5⟩:=R.objs _ _ _ (uy (g:=λ p=>.liter p.1 p.2) (λ _ _=>XQ) e1) g2;obtain⟨cs,n,d1,d2⟩:=R.list (iZ e2) c2;intro hb;refine Y4 g1 ?_;show bI _ _ (field (.ref ita) 0 >>= _) _ _ s;refine ak (jO c1 c5 (x:=.ref la) rfl ?_);refine ak (jO c1 c5 (x:=.int i 0) rfl ?_);refine ak (jf d1 rfl ?_);have fr:∀f:Array ao->Array ao,(Obj.mapFields f ci).isFreed=false:=λ f=>Obj.isFreed_of_fields (Obj.data_mapFields c5 f)
 induction q:xs[i]? with
 |some v=>
  obtain⟨cv,hc,hv⟩:=d2.get q;have hc':cs[i]?=some cv:=by rw[<-cV];exact hc
  simp only[Int.toNat_natCast,hc'];have hk:k0<=it:=Decidable.byContradiction λ hn=>hb (by unfold Ae;rw[q];exact if_neg hn)
  rw[show Ae it (l,i).1 (l,i).2 xs Y=.ok v (Y.upd it (.liter l (i+1)))by unfold Ae;rw[q];exact if_pos hk];refine ak (lB c1 c5 (by simp) (aB ⟨cv,rfl,?_⟩));refine Cx.ret0 (R.upd hk g2 (cB ..) (b8 _ c1 (fr _)) ⟨la,c2,(Obj.cls_mapFields ..).trans c3,?_,?_⟩) hv
  ·rw[<-c4];exact H8 ..
  ·rw[Obj.data_mapFields c5];simp[rawInt]
 |none=>
  have hc':cs[i]?=none:=by
   rw[fH,gw d2];exact cU.mp q
  simp only[Int.toNat_natCast,hc'];have hk:k0<=it:=Decidable.byContradiction λ hn=>hb (by unfold Ae;rw[q];exact if_neg hn)
  rw[show Ae it (l,i).1 (l,i).2 xs Y=.exc .stop (Y.upd it .any)by unfold Ae;rw[q];exact if_pos hk];refine ak (lz (ak (lB c1 c5 (by simp) ?_)));refine ak ?_;refine ak (m:=firstArgMember _ _) (nO (a:=Value.none) (by first|rfl|(simp only[firstArgMember];rfl)) ?_);refine fQ ?_ (by size_fits);refine ak (wpAny_handled ?_);rw[show A.in1.handled=none from hA];refine ak (aB (wpAny_throw ?_));refine⟨.stop,_,_,s.toks,[],rfl,rfl,?_⟩;rw[aW];refine W4 (args:=[]) (R.upd hk g2 (cB s.heap ita (Obj.mapFields λ a=>a.setIfInBounds 0 Value.none)) (b8 _ c1 (fr _)) trivial) ⟨λ b o e=>bB _ (bB _ e),?_,(s.heap.update ita (Obj.mapFields λ a=>a.setIfInBounds 0 Value.none)).objs.size,?_⟩
  ·exact dg (by rw[jJ];exact Nat.le_succ _)
  ·refine⟨bW _ rfl,dg (bV _),bB _ (bW _ rfl)⟩
end
namespace LI
theorem slot_ga:Slot "list_iterator" "__getattribute__" "object.__getattribute__":=
 .of (owner:="object") (n:="__getattribute__") (by rw[dZ];kernel_rfl) (by decide+kernel) (by decide+kernel) (by decide+kernel)
  (by first|exact .inl (by decide+kernel)|exact .inr (by decide+kernel)) (by rw[iC];kernel_rfl)
theorem entry_ga:entryFor table "object.__getattribute__"=some Builtin.«object.__getattribute__»:=jH (by kernel_rfl)
theorem args_ga(a b:ao):argsOk "object.__getattribute__" ⟨[a,b],[]⟩:=by unfold argsOk;kernel_rfl
theorem next_lk:typeLookup (.type "list_iterator") "__next__"=pure (some (.builtin "list_iterator.__next__")):=by rw[dZ,fV];kernel_rfl
theorem next_type:typeOf (.builtin "list_iterator.__next__")=pure (.type "wrapper_descriptor"):=by show builtinType _=_;rw[builtinType_eq_fast];kernel_rfl
theorem wd_set:typeLookup (.type "wrapper_descriptor") "__set__"=pure none:=by rw[dZ,fV];kernel_rfl
theorem wd_del:typeLookup (.type "wrapper_descriptor") "__delete__"=pure none:=by rw[dZ,fV];kernel_rfl
theorem slot_wd:Slot "wrapper_descriptor" "__get__" "wrapper_descriptor.__get__":=
 .of (owner:="wrapper_descriptor") (n:="__get__") (by rw[dZ];kernel_rfl) (by decide+kernel) (by decide+kernel) (by decide+kernel)
  (by first|exact .inl (by decide+kernel)|exact .inr (by decide+kernel)) (by rw[iC];kernel_rfl)
theorem entry_wd:entryFor table "wrapper_descriptor.__get__"=some Builtin.«wrapper_descriptor.__get__»:=jH (by kernel_rfl)
theorem args_wd(a b c:ao):argsOk "wrapper_descriptor.__get__" ⟨[a,b,c],[]⟩:=by unfold argsOk;kernel_rfl
theorem li_own:isSubtype (.type "list_iterator") (.type (".".intercalate ("list_iterator.__next__".cutAt '.').dropLast))=pure true:=by
 rw[show ".".intercalate ("list_iterator.__next__".cutAt '.').dropLast="list_iterator" by decide+kernel,iC];kernel_rfl
theorem ale:typeLookup (.type "list_iterator") "__getattr__"=pure none:=by rw[dZ,fV];kernel_rfl
end LI
theorem abX(a:aR):Meets (Builtin.«wrapper_descriptor.__get__» ⟨[.builtin "list_iterator.__next__",.ref a,.type "list_iterator"],[]⟩) (λ _ R s=>s.TypeIs (.ref a) "list_iterator"/\R (.ok (.ret (.ref s.heap.objs.size))) {s with heap:=s.heap.push (Az a)}):=
 Meets.of_wp λ prog w A R s hs=>by
  obtain⟨hT,hs⟩:=hs;have f1:=LI.li_own;repeat (any_goals (first|assumption|wp_step))
  exact⟨_,rfl,hs⟩
theorem abY(a:aR)(u:Tok):Meets (Builtin.«object.__getattribute__» ⟨[.ref a,.str "__next__" u],[]⟩) (λ _ R s=>(∃fs sl,s.heap.get? a=some {cls:=.type "list_iterator",dict:=none,data:=.fields fs,slots:=sl})/\R (.ok (.ret (.ref s.heap.objs.size))) {s with heap:=s.heap.push (Az a)}):=
 Meets.of_wp λ prog w A R s hs=>by
  obtain⟨⟨fs,sl,hx⟩,hs⟩:=hs;obtain⟨hp,g,d,tk,os⟩:=s;have hT:(⟨hp,g,d,tk,os⟩:aD).TypeIs (.ref a) "list_iterator":=⟨_,hx,rfl⟩;have f1:=LI.next_lk;have f2:=LI.next_type;have f3:=LI.wd_set;have f4:=LI.wd_del;have f5:=LI.slot_wd.lookup;repeat (any_goals (first|assumption|((with_reducible show bI _ _ (call (Value.builtin "wrapper_descriptor.__get__") _ _) _ _ _);refine call_meets LI.slot_wd LI.next_type LI.entry_wd (LI.args_wd _ _ _) (abX a) ⟨hT,?_⟩)|wp_step))
  exact aB ⟨_,rfl,hs⟩
section
variable {prog:cI}{w:eZ}{A:bJ}{E:ao->aD->Prop}{s:aD}
theorem Oe{a:aR}{o:Obj}(hx:s.heap.get? a=some o)(hc:o.cls=.type "list_iterator")(hd:o.dict=none){fs:Array ao}(hf:o.data=.fields fs){Q:ao->aD->Prop}
  (h:∀tk,Q (.ref s.heap.objs.size) {s with heap:=s.heap.push (Az a),toks:=tk}):bI (model prog w) A (getAttr (.ref a) "__next__" true) Q E s:=by
 obtain⟨c,dct,dat,sl⟩:=o;obtain⟨hp,g,d,tk,os⟩:=s;simp only at hc hd hf;subst hc hd hf;have hT:∀tk',(⟨hp,g,d,tk',os⟩:aD).TypeIs (.ref a) "list_iterator":=λ _=>⟨_,hx,rfl⟩
 have f3:=LI.slot_ga.lookup;have f4:=LI.slot_ga.bind (.ref a);repeat (any_goals (first|assumption|exact hT _|((with_reducible show bI _ _ (call (Value.builtin "object.__getattribute__") _ _) _ _ _);refine call_meets LI.slot_ga (hT _) LI.entry_ga (LI.args_ga _ _) (abY a _) ⟨⟨_,_,hx⟩,?_⟩)|wp_step))
 exact aB (h _)
end
section
variable {C:Cx}{A:bJ}{ρ:List aR}{s:aD}{Y:St}
theorem Y6(R:C.Rep ρ s.heap Y){k l i:Nat}{c:ao}(h:VR ρ (.ref k) c)(e:Y.sto[k]?=some (.liter l i)):C.Snd A (getAttr c "__next__" true) ρ (Y.new (.bnext k)) VR s:=by
 obtain⟨a,ha,rfl⟩:=h;obtain⟨co,h1,la,h2,h3,h4,h5⟩:=R.objs _ _ _ e ha;exact λ _=>Oe h1 h3 h4 h5 λ tk=>Cx.ret1 (R.new1 (o:=.bnext k) rfl ⟨a,bK ha,rfl⟩) (tM R.lenEq)
end
noncomputable def tV(d:Nat):Prop:=∀{C:Cx}{A A₀:bJ}{en:En}{env:Env}{ρ:List aR}{s:aD}{Y:St}{a:Nat}{args:List V}{cvs:List ao},yw d C->dm C A₀ ρ en env->en.own=true->A.handled=none->A.frames=A₀.frames->
 A.units+10*C.room+93 < cLine->A.depth+C.room < gP->C.Rep ρ s.heap Y->cX (VR ρ) args cvs->aG d a args Y≠.bad->
 f9 (model C.prog C.w) A (.call (.ref a) ⟨cvs,[]⟩) (wants (C.Ret ρ s (aG d a args Y) VR) (C.Exn ρ s (aG d a args Y))) s
theorem ahZ(a:Nat)(args:List V)(Y:St):aG 0 a args Y=.bad:=rfl
theorem ah0(d:Nat)(args:List V)(Y:St):aG (d+1) 137 args Y=if args.isEmpty then
    (aG d 73 [.ref (Y.sto.length+1)] {Y with sto:=Y.sto++[.dict [] 0,.inst Y.sto.length]}).bind λ v τ=>if v=.none then .ok (.ref (Y.sto.length+1)) τ else .bad else .bad:=rfl
theorem ah1(d:Nat)(args:List V)(Y:St):aG (d+1) 40 args Y=match args with
   |[x]=>(aG d 36 [.ref (Y.sto.length+1),x] {Y with sto:=Y.sto++[.dict [] 0,.node Y.sto.length [none,none,none]]}).bind λ v τ=>if v=.none then .ok (.ref (Y.sto.length+1)) τ else .bad
   |_=>.bad:=rfl
theorem zQ(d a:Nat)(args:List V)(Y:St)(h1:a≠137)(h2:a≠40):aG (d+1) a args Y=match rA a with
   |none=>.bad
   |some f=>wM (aG d) f args Y:=by
 show(if a=137 then _ else if a=40 then _ else _)=_;rw[if_neg h1,if_neg h2];induction rA a<;>rfl
theorem dm.lower{C:Cx}{A:bJ}{ρ:List aR}{en:En}{env:Env}(h:dm C A ρ en env):dm {C with room:=C.room - 1} A ρ en env:=
 ⟨h.scope,h.kind,h.locals,h.globals,h.builtins,h.cells,h.free,h.units,by have:=h.room;show A.units+10*(C.room - 1)+100 < cLine/\A.depth+(C.room - 1) < gP;lia,h.files,h.stat,h.own⟩
set_option tactic.hygienic true in
theorem Rm{d:Nat}(ih:tV d){C:Cx}{A A₀:bJ}{en:En}{env:Env}{ρ:List aR}{s:aD}{Y:St}{D fI:Nat}{args:List V}{cvs:List ao}(hD:D=137/\fI=73\/D=40/\fI=36){o:O}(W:yw (d+1) C)(EV:dm C A₀ ρ en env)(hown:en.own=true)(hh:A.handled=none)(hfr:A.frames=A₀.frames)
  (hun:A.units+10*C.room+93 < cLine) (hdp:A.depth+C.room < gP) (R:C.Rep ρ s.heap Y) (hv:cX (VR ρ) args cvs) (ho:∀ρ' dx,ρ'[Y.sto.length]?=some dx->OR C.prog C.w ρ' o (instObj D dx)) {r:aC V}
  (hr:r=(aG d fI (.ref (Y.sto.length+1)::args) {Y with sto:=Y.sto++[.dict [] 0,o]}).bind λ v τ=>if v=.none then .ok (.ref (Y.sto.length+1)) τ else .bad) (hbad:r≠.bad):
  f9 (model C.prog C.w) A (.call (.ref D) ⟨cvs,[]⟩) (wants (C.Ret ρ s r VR) (C.Exn ρ s r)) s:=by
 obtain⟨K,X0,hK⟩:=(let ⟨_,_,kb,f2⟩:=W.1;let ⟨K,X,h⟩:=f2.ko;⟨K,X.keeps kb,h⟩:∃K:Frag,K.In C.h₀/\Ye K=true);have S:=Ye.split hK;have X:K.In s.heap:=X0.keeps λ b o e=>Mine.Rep.keep R b o e
 have T:Ra K D fI:=by
  clear ho;clear hr;rcases hD with⟨rfl,rfl⟩|⟨rfl,rfl⟩
  ·exact ju S.c1
  ·exact ju S.c2
 obtain⟨hp,g,dr,tk,os⟩:=s;have hlen:ρ.length=Y.sto.length:=R.lenEq;refine make_core (rest:=cvs) (kw:=[]) (init:=.ref fI) (makes_of X T.makes) (looks_findIn X T.init) (λ self=>bind_fn X self (beq_iff_eq.mp T.fn)) (.inl rfl) ?_;have R1:C.Rep (ρ++[hp.objs.size]) (hp.push emptyDict) {Y with sto:=Y.sto++[.dict [] 0]}:=Rep.push R rfl ⟨#[],[],rfl,λ _ h=>by simp at h,.nil,.nil,.nil⟩;have R2:C.Rep (ρ++[hp.objs.size]++[hp.objs.size+1]) ((hp.push emptyDict).push (instObj D hp.objs.size)) {Y with sto:=Y.sto++[.dict [] 0]++[o]}:=by
  have:=Rep.push (co:=instObj D hp.objs.size) (o:=o) R1 rfl (ho _ _ (by rw[<-hlen];simp));rwa [jJ]at this
 have R3:C.Rep (ρ++[hp.objs.size,hp.objs.size+1]) ((hp.push emptyDict).push (instObj D hp.objs.size)) {Y with sto:=Y.sto++[.dict [] 0,o]}:=by
  simpa only[aj,vm,jW]using R2
 have hself:(ρ++[hp.objs.size,hp.objs.size+1])[Y.sto.length+1]?=some (hp.objs.size+1):=by rw[<-hlen];simp
 have hne:aG d fI (.ref (Y.sto.length+1)::args) {Y with sto:=Y.sto++[.dict [] 0,o]}≠.bad:=λ q=>hbad (by rw[hr,q];rfl)
 have hw:(Code.builtin "type.__call__" ⟨.ref D::cvs,[]⟩).weight=1:=rfl;have hroom:1<=C.room:=by have:=W.2;lia
 have hcu:(Code.builtin "type.__call__" ⟨.ref D::cvs,[]⟩).cUnits<=10:=ji rfl;have hun':(A.under (.builtin "type.__call__" ⟨.ref D::cvs,[]⟩)).units+10*(C.room - 1)+93 < cLine:=by
  show A.units+_+10*(C.room - 1)+93 < cLine;lia
 have hdp':(A.under (.builtin "type.__call__" ⟨.ref D::cvs,[]⟩)).depth+(C.room - 1) < gP:=by
  show A.depth+_+(C.room - 1) < gP;rw[hw];lia
 have key:=ih (C:={C with room:=C.room - 1}) (A:=A.under (.builtin "type.__call__" ⟨.ref D::cvs,[]⟩)) (A₀:=A₀) (s:=⟨(hp.push emptyDict).push (instObj D hp.objs.size),g,dr,tk,os⟩) (a:=fI) (args:=.ref (Y.sto.length+1)::args) (cvs:=.ref (hp.objs.size+1)::cvs) ⟨W.1,by have:=W.2;show d<=C.room - 1;lia⟩
  (EV.lower.mono [hp.objs.size,hp.objs.size+1]) hown hh (by rw[<-hfr];exact rfl) hun' hdp' R3 (.cons ⟨_,hself,rfl⟩ (hv.mono λ _ _=>VR.mono)) hne
 refine qU key λ r' s' x=>?_
 induction r' with
 |error e=>
  obtain⟨x',Y',h',tk',ρ',e1,e2,e3⟩:=x;refine⟨x',Y',h',tk',[hp.objs.size,hp.objs.size+1]++ρ',?_,e2,?_⟩
  ·rw[hr,e1];rfl
  ·rw[<-aj];exact let ⟨a1,a2,a3,a4,a5,a6,a7,a8,a9,b1,b2,b3,b4⟩:=e3;⟨a1,a2,a3,a4,a5,a6,a7,a8,a9,b1,b2,b3,b4⟩
 |ok f=>
  induction f with
  |ret v=>
   obtain⟨v',Y',h',tk',ρ',e1,e2,e3,e4⟩:=x;simp only[e1,aC.bind_ok]at hr;clear e1;split at hr
   ·rename_i hn
    subst hn;refine⟨e4,_,Y',h',tk',[hp.objs.size,hp.objs.size+1]++ρ',hr,e2,?_,?_⟩
    ·rw[<-aj];exact e3
    ·exact⟨_,by rw[<-aj];exact bK hself,rfl⟩
   ·exact absurd hr hbad
  |_=>exact x
theorem Rn:tV 0:=by
 intro C A A₀ en env ρ s Y a args cvs W EV hown hh hfr hun hdp R hv hbad;exact absurd rfl hbad
theorem Ro{d:Nat}(hO:zN d (aG d))(ih:tV d):tV (d+1):=by
 intro C A A₀ en env ρ s Y a args cvs W EV hown hh hfr hun hdp R hv hbad;by_cases h1:a=137
 ·subst h1;induction args with
  |cons _ _=>exact absurd rfl hbad
  |nil=>exact Rm (o:=.inst Y.sto.length) ih (.inl ⟨rfl,rfl⟩) W EV hown hh hfr hun hdp R hv (λ ρ' dx e=>⟨dx,e,rfl⟩) rfl hbad
 by_cases h2:a=40
 ·clear h1;subst h2;rcases args with _|⟨x,_|⟨y,r⟩⟩
  ·exact absurd rfl hbad
  ·refine Rm (o:=.node Y.sto.length [none,none,none]) ih (.inr ⟨rfl,rfl⟩) W EV hown hh hfr hun hdp R hv (λ ρ' dx e=>⟨rfl,dx,#[],e,rfl,λ i v q=>?_⟩) rfl hbad;rcases i with _|_|_|i
   ·cases q;rfl
   ·cases q;rfl
   ·cases q;rfl
   ·first|exact ns q|exact qW q|cases q
  ·exact absurd rfl hbad
 rw[zQ _ _ _ _ h1 h2]at hbad ⊢;induction hf:rA a with
 |none=>rw[hf]at hbad;exact absurd rfl hbad
 |some f=>
  rw[hf]at hbad;obtain⟨hb,f1,kb,f2⟩:=W.1;exact KC hO W EV hown hh hfr hun hdp R hv kb (f2.fns a f hf) f2.lim hbad
namespace MP
theorem Y7:Slot "map" "__init__" "object.__init__":=
 .of (owner:="object") (n:="__init__") (by rw[dZ];kernel_rfl) (by decide+kernel) (by decide+kernel) (by decide+kernel)
  (by first|exact .inl (by decide+kernel)|exact .inr (by decide+kernel)) (by rw[iC];kernel_rfl)
theorem mro:mroOf (.type "map")=pure [.type "map",.type "object"]:=by rw[mroOf_type];kernel_rfl
theorem Uw:typeLookup (.type "map") "__new__"=pure (some (.builtin "map.__new__")):=by rw[dZ,fV];kernel_rfl
theorem called:TypeCalled "map" "map.__new__" "object.__init__":=
 ⟨by decide+kernel,by decide+kernel,⟨_,_,mro⟩,madeBy_type mro Uw (by decide+kernel),by decide+kernel,by rw[iC];kernel_rfl,Y7⟩
theorem typeCall(a b:ao):checkTypeCall "map" ⟨[a,b],[]⟩=pure ():=by kernel_rfl
theorem newCall(a b:ao):checkBuiltinCall "map.__new__" ⟨[.type "map",a,b],[]⟩=pure ():=by kernel_rfl
theorem entry_new:entryFor table "map.__new__"=some Builtin.«map.__new__»:=jH (by kernel_rfl)
theorem sub:isSubtype (.type "map") (.type "map")=pure true:=by rw[iC];kernel_rfl
theorem slot_iter:Slot "map" "__iter__" "map.__iter__":=
 .of (owner:="map") (n:="__iter__") (by rw[dZ];kernel_rfl) (by decide+kernel) (by decide+kernel) (by decide+kernel)
  (by first|exact .inl (by decide+kernel)|exact .inr (by decide+kernel)) (by rw[iC];kernel_rfl)
theorem entry_iter:entryFor table "map.__iter__"=some Builtin.«dict_keyiterator.__iter__»:=entryFor_alias (id':="dict_keyiterator.__iter__") (by kernel_rfl) (by decide+kernel) (by decide+kernel) (by kernel_rfl)
theorem args_iter(a:ao):argsOk "map.__iter__" ⟨[a],[]⟩:=by unfold argsOk;kernel_rfl
theorem slot_next:Slot "map" "__next__" "map.__next__":=
 .of (owner:="map") (n:="__next__") (by rw[dZ];kernel_rfl) (by decide+kernel) (by decide+kernel) (by decide+kernel)
  (by first|exact .inl (by decide+kernel)|exact .inr (by decide+kernel)) (by rw[iC];kernel_rfl)
theorem entry_next:entryFor table "map.__next__"=some Builtin.«map.__next__»:=jH (by kernel_rfl)
theorem args_next(a:ao):argsOk "map.__next__" ⟨[a],[]⟩:=by unfold argsOk;kernel_rfl
theorem no_len:typeLookup (.type "map") "__len__"=pure none:=by rw[dZ,fV];kernel_rfl
theorem no_hint:typeLookup (.type "map") "__length_hint__"=pure none:=by rw[dZ,fV];kernel_rfl
end MP
noncomputable abbrev afF(h:cG)(f l:aR):cG:=((h.push {cls:=.type "list_iterator",data:=.fields #[.ref l,.int 0 0]}).push {cls:=.type "tuple",data:=.seq #[.ref h.objs.size]}).push
 {cls:=.type "map",data:=.fields #[.ref (h.push {cls:=.type "list_iterator",data:=.fields #[.ref l,.int 0 0]}).objs.size,.ref f]}
theorem JG(f l:aR)(xs:Array ao):Meets (Builtin.«map.__new__» ⟨[.type "map",.ref f,.ref l],[]⟩) (λ _ R s=>s.heap.IsList l xs/\R (.ok (.ret (.ref (s.heap.objs.size+2)))) {s with heap:=afF s.heap f l}):=
 .of_wp λ prog w A R s h=>by
  obtain⟨hp,g,d,tk,os⟩:=s;obtain⟨hl1,h⟩:=h;have hsub:=MP.sub;have z:((hp.push {cls:=.type "list_iterator",data:=.fields #[.ref l,.int 0 0]}).push {cls:=.type "tuple",data:=.seq #[.ref hp.objs.size]}).objs.size=hp.objs.size+2:=by rw[jJ,jJ]
  wp_walk using oK hl1
  rw[<-z]at h;exact⟨_,rfl,h⟩
section
variable {C:Cx}{A:bJ}{ρ:List aR}{s:aD}{Y:St}
theorem afG(R:C.Rep ρ s.heap Y){l f:Nat}{xs:List V}{c:ao}(h:VR ρ (.ref l) c)(e:Y.sto[l]?=some (.list xs)):
  C.Snd A (call (.type "map") [.ref f,c]) ρ (({Y with sto:=Y.sto++[.eit l 0,.tup [.ref Y.sto.length]]}:St).new (.mapo f (Y.sto.length+1))) VR s:=by
 obtain⟨a,ha,rfl⟩:=h;obtain⟨cs,n,h1,h2⟩:=R.list e ha;have hl:ρ.length=Y.sto.length:=R.lenEq;refine λ _=>callType_new MP.called (by decide) (MP.typeCall _ _) (MP.newCall _ _) (λ obj=>PySem.F.args_object_init_3 obj _ _) MP.entry_new (JG f a cs) ⟨h1.isList,?_⟩
 have z1:(s.heap.push {cls:=.type "list_iterator",data:=.fields #[.ref a,.int 0 0]}).objs.size=s.heap.objs.size+1:=jJ ..;have z2:((s.heap.push {cls:=.type "list_iterator",data:=.fields #[.ref a,.int 0 0]}).push {cls:=.type "tuple",data:=.seq #[.ref s.heap.objs.size]}).objs.size=s.heap.objs.size+2:=by rw[jJ,z1]
 have g3:(afF s.heap f a).get? _=some _:=bW _ rfl;rw[z2]at g3;refine⟨⟨_,g3,rfl⟩,?_⟩;have R1:C.Rep (ρ++[s.heap.objs.size]) _ {Y with sto:=Y.sto++[.eit l 0]}:=Rep.push (co:={cls:=.type "list_iterator",data:=.fields #[.ref a,.int 0 0]}) R rfl ⟨a,bK ha,rfl,rfl⟩;have R3:=Rep.push (co:={cls:=.type "map",data:=.fields #[.ref (s.heap.objs.size+1),.ref f]}) (o:=.mapo f (Y.sto.length+1)) (Rep.push (co:={cls:=.type "tuple",data:=.seq #[.ref s.heap.objs.size]}) (o:=.tup [.ref Y.sto.length]) R1 rfl ⟨#[.ref s.heap.objs.size],0,rfl,.cons ⟨_,by rw[<-hl];simp,rfl⟩ .nil⟩) rfl ⟨s.heap.objs.size+1,by rw[<-hl];simp,rfl⟩;simp only[z1,z2]at R3;have R4:C.Rep (ρ++[s.heap.objs.size,s.heap.objs.size+1,s.heap.objs.size+2]) (afF s.heap f a) {Y with sto:=Y.sto++[.eit l 0,.tup [.ref Y.sto.length]]++[.mapo f (Y.sto.length+1)]}:=by
  unfold afF;rw[z1];simp only[aj,vm,jW]at R3 ⊢;exact R3
 refine Cx.ret1 R4 ⟨_,?_,rfl⟩;simp[<-hl]
end
noncomputable abbrev vL(t f:aR):Obj:={cls:=.type "map",dict:=none,data:=.fields #[.ref t,.ref f],slots:=#[]}
noncomputable abbrev abZ(it:aR)(n:Nat):Obj:={cls:=.type "tuple",dict:=none,data:=.seq #[.ref it] n,slots:=#[]}
section
variable {prog:cI}{w:eZ}{A:bJ}{E:ao->aD->Prop}{s:aD}
theorem ab0{m t f it l:aR}{i:Nat}{items:Array ao}{c:ao}{n:Nat}(hm:s.heap.get? m=some (vL t f))(ht:s.heap.get? t=some (abZ it n))
  (hit:s.heap.IsListIter it l i) (hl:s.heap.IsList l items) (hx:items[i]?=some c) (hmi:m≠it) {Q:ao->aD->Prop}
  (h:∀h',h'.IsListIter it l (i+1)->dO it s.heap h'->bI (model prog w) A (call (.ref f) [c]) Q E {s with heap:=h'}):
  bI (model prog w) A (Builtin.«map.__next__» ⟨[.ref m],[]⟩) (λ sV s'=>∃v,sV=.done (.ret v)/\Q v s') E s:=by
 show bI _ _ (field (.ref m) 0 >>= _) _ _ _;refine ak (jO hm rfl (x:=.ref t) rfl ?_);refine ak (jf ht rfl ?_);refine ak (xq ?_);rw[gW];refine ak (ak (cJ (wpAny_nextOf_list_item hit hl hx λ h' hit' hs=>?_)));refine aB ?_;refine aB ?_;refine ak (jO (s:={s with heap:=h'}) ((hs.2 m hmi).trans hm) rfl (x:=.ref f) rfl ?_);refine ak (cJ (cO (h h' hit' hs) (λ v s' q=>?_) λ _ _ q=>q));exact ak (qj (aB ⟨_,rfl,q⟩))
theorem afH{m t f it l:aR}{i:Nat}{items:Array ao}{n:Nat}(hh:A.handled=none)(hm:s.heap.get? m=some (vL t f))(ht:s.heap.get? t=some (abZ it n))
  (hit:s.heap.IsListIter it l i) (hl:s.heap.IsList l items) (hx:items[i]?=none) {Q:Fin->aD->Prop}
  (hE:∀h' e,lA it s.heap h'->(∃o,h'.get? it=some o)->(∃o,h'.get? e=some o/\o.cls=.type "StopIteration")->E (.ref e) {s with heap:=h'}):
  bI (model prog w) A (Builtin.«map.__next__» ⟨[.ref m],[]⟩) Q E s:=by
 show bI _ _ (field (.ref m) 0 >>= _) _ _ _;refine ak (jO hm rfl (x:=.ref t) rfl ?_);refine ak (jf ht rfl ?_);refine ak (xq ?_);rw[gW];exact ak (ak (cJ (Hp hh hit hl hx hE)))
theorem Y8{m t f it l:aR}{i:Nat}{items:Array ao}{c:ao}{n:Nat}(hm:s.heap.get? m=some (vL t f))(ht:s.heap.get? t=some (abZ it n))
  (hit:s.heap.IsListIter it l i) (hl:s.heap.IsList l items) (hx:items[i]?=some c) (hmi:m≠it) {Q:Option ao->aD->Prop}
  (h:∀h',h'.IsListIter it l (i+1)->dO it s.heap h'->bI (model prog w) A.in1 (call (.ref f) [c]) (λ v s'=>Q (some v) s') (λ _ _=>False) {s with heap:=h'}):
  bI (model prog w) A (pyNext (.ref m)) Q E s:=by
 have hT:s.TypeIs (.ref m) "map":=⟨_,hm,rfl⟩;refine ak (uh (gA (name:=Str.ofString "__next__") hT MP.slot_next (d7 MP.slot_next hT MP.entry_next
  (ab0 hm ht hit hl hx hmi λ h' a b=>cO (h h' a b) (λ v s' q=>?_) λ _ _ q=>q.elim) (MP.args_next _))))
 exact aB q
theorem ab1{m t f it l:aR}{i:Nat}{items:Array ao}{n:Nat}(hh:A.handled=none)(hm:s.heap.get? m=some (vL t f))(ht:s.heap.get? t=some (abZ it n))
  (hit:s.heap.IsListIter it l i) (hl:s.heap.IsList l items) (hx:items[i]?=none) {Q:Option ao->aD->Prop}
  (h:∀h',lA it s.heap h'->(∃o,h'.get? it=some o)->Q none {s with heap:=h'}):
  bI (model prog w) A (pyNext (.ref m)) Q E s:=by
 have hT:s.TypeIs (.ref m) "map":=⟨_,hm,rfl⟩;refine ak (uh (gA (name:=Str.ofString "__next__") hT MP.slot_next (d7 MP.slot_next hT MP.entry_next
  (afH (A:=A.in1) hh hm ht hit hl hx λ h' e a b c=>?_) (MP.args_next _))))
 obtain⟨o,ho,hc⟩:=c;exact ak (vh (T:="StopIteration") (b:=true) ⟨o,ho,hc⟩ isSubtype_stop (aB (h h' a b)))
end
section
variable {C:Cx}{A:bJ}{ρ:List aR}{s:aD}{Y:St}{cl:Nat->List V->St->aC V}
theorem agW{α:Type}{c:Bool}{r:aC α}(h:(if c=true then r else .bad)≠.bad):c=true:=by
 induction c with
 |false=>exact absurd rfl h
 |true=>rfl
open Classical in
theorem Rp{f m kt l k i:Nat}{xs:List V}{ma:aR}{ρ:List aR}{Y:St}(R:C.Rep ρ s.heap Y)(hok:JX f m kt l k i xs Y=true)(hm:ρ[m]?=some ma){P:Prop}
  (K:∀ta ita n la cs nl,s.heap.get? ma=some (vL ta f)->s.heap.get? ta=some (abZ ita n)->ρ[k]?=some ita->s.heap.IsListIter ita la i->IsL s.heap la cs nl->cX (VR ρ) xs cs.toList->ρ[l]?=some la->ma≠ita->P):P:=by
 obtain⟨o1,o2,o3,o4⟩:=of_decide_eq_true hok;obtain⟨cm,m1,ta,m2,rfl⟩:=Mine.Rep.objs R m _ ma o1 hm;obtain⟨ct,t1,cs,nt,rfl,t3⟩:=Mine.Rep.objs R kt _ ta o2 m2;obtain⟨_,_,ec,⟨ita,i0,rfl⟩,t3⟩:=t3.cons_inv;rw[t3.nil_inv]at ec;cases CQ ec;obtain⟨ci,i1,la,i2,i3,i4⟩:=Mine.Rep.objs R k _ ita o3 i0;obtain⟨cl',nl,l1,l2⟩:=Cx.Rep.list R o4 i2;refine K ta ita _ la cl' nl m1 t1 i0 ⟨ci,i1,i3,i4⟩ l1 l2 i2 λ q=>?_
 clear t1 ec i1;subst q;induction(oH (aN.mp hm).1 (Mine.Rep.nodup R)).mp (hm.trans i0.symm)
 rw[o1]at o3;cases o3
theorem ab2{f m kt l k:Nat}{xs:List V}{S ma:aR}{res:ao}{R:Result->aD->Prop}(hh:A.handled=none)(hsm:xs.length<=big)(hk0:k0<=ρ.length)(hfi:ρ[0]?=some uz)(hm:ρ[m]?=some ma)(hkk:k0<=k)(hn:C.h₀.get? S=none)(hsys:(C.h₀.get? gk).isSome=true)
  (hcall:∀g,Sub C.h₀ g->∀{ρ s Y x c},k0<=ρ.length->ρ[0]?=some uz->(C.on g).Rep ρ s.heap Y->VR ρ x c->(C.on g).Snd A.in1.in1 (call (.ref f) [c]) ρ (cl f [x] Y) VR s):
  ∀(r:List V) (i:Nat) (Y':St) (ρ':List aR) (h:cG) (tk:Nat) (acc:Array ao) (n:Nat) (ys:List V),xs.drop i=r->i<=xs.length->C.Rep (ρ++ρ') h Y'->jb C (ρ++ρ') S->h.get? S=some (uG acc n)->cX (VR (ρ++ρ')) ys acc.toList->ys.length=i->
   jT cl f m kt l k xs i r Y'≠.bad->
   (∀zs τ ρ'' h' tk' acc' n',jT cl f m kt l k xs i r Y'=.ok zs τ->C.Rep (ρ++ρ'') h' τ->h'.get? S=some (uG acc' n')->cX (VR (ρ++ρ'')) (ys++zs) acc'.toList->R (.ok (.ret res)) {s with heap:=h',toks:=tk'})->
   f9 (model C.prog C.w) A (.builtin "list.extend.loop" ⟨[.ref S,.ref ma,res],[]⟩) R {s with heap:=h,toks:=tk}:=by
 intro r;induction r with
 |nil=>
  intro i Y' ρ' h tk acc n ys hd hi R' ap hS hys hyl hb hR;refine uq λ G toG=>?_
  have hok:JX f m kt l k i xs Y'=true:=agW hb;refine Rp (s:={s with heap:=h,toks:=tk}) R' hok (bK hm) λ ta ita nt la cl' nl m1 t1 i0 hit l1 l2 i2 _=>?_
  refine toG (fK PySem.F.entry_extend_loop ?_);refine ak (ab1 (A:=A.in1) (s:={s with heap:=h,toks:=tk}) hh m1 t1 hit (IsL.isList l1) ?_ λ hH hs hoi=>?_)
  ·rw[fH,gw l2];exact List.drop_eq_nil_iff.mp hd
  obtain⟨oi,hoi⟩:=hoi;exact aB (hR [] _ ρ' hH tk acc n (if_pos hok) (Rep.upd1 R' hkk i0 hs hoi trivial) (hs S _ (λ q=>ap.notIn (q▸bG i0)) hS) (by rw[aW];exact hys))
 |cons x r ih=>
  intro i Y' ρ' h tk acc n ys hd hi R' ap hS hys hyl hb hR;refine uq λ G toG=>?_
  have hok:JX f m kt l k i xs Y'=true:=agW hb;refine Rp (s:={s with heap:=h,toks:=tk}) R' hok (bK hm) λ ta ita nt la cl' nl m1 t1 i0 hit l1 l2 i2 hmi=>?_
  have hil:i < xs.length:=Nat.lt_of_not_le λ q=>by rw[cP q]at hd;contradiction
  rw[eF hil]at hd;obtain⟨c,hc,hcv⟩:=l2.get ((bf hil).trans (congrArg some (List.cons.inj hd).1));have e0:jT cl f m kt l k xs i (x::r) Y'=_:=if_pos hok;obtain⟨y,σ₁,hy,e1⟩:=bindN_ok (xu e0.symm hb);replace e0:=e0.trans e1;obtain⟨zs0,τ0,hz,-⟩:=bindN_ok (xu e0.symm hb);refine toG (fK PySem.F.entry_extend_loop ?_);show bI _ A.in1 (pyNext (.ref ma) >>= _) _ _ _;refine ak (Y8 (s:={s with heap:=h,toks:=tk}) m1 t1 hit (IsL.isList l1) (by rw[<-cV];exact hc) hmi λ hH hit1 hs=>uq λ G toG=>?_);obtain⟨oi,q1,q2,q3⟩:=hit1;obtain⟨g,g1,g2,Rg,g3⟩:=Rep.strong (Rep.upd1 R' hkk i0 hs.extBut q1 ⟨la,i2,q2,q3⟩:C.Rep (ρ++ρ') hH (Y'.upd k (.eit l (i+1))));have hgS:=g3 S _ ((hs.2 S (λ q=>ap.notIn (q▸bG i0))).trans hS) ap;refine toG (Cx.Snd.calm (C:=C.on g) (hcall g g1 (s:={s with heap:=hH,toks:=tk}) (by rw[aq];exact bT hk0 (d8 ..)) (bK hfi) Rg hcv) (by rw[hy];nofun) (by rw[hy];nofun) λ y' σ₂ cy hV tk2 ρ2 e6 RC hvy=>?_);simp only[<-(aC.ok.inj (hy.symm.trans e6)).2]at RC;rw[<-(aC.ok.inj (hy.symm.trans e6)).1]at hvy;have hS2:hV.get? S=some (uG acc n):=Mine.Rep.keep RC S _ hgS;have ap2:jb C (ρ++ρ'++ρ2) S:=jb.stay ap hgS RC (by rw[aq];exact bT hk0 (d8 ..));have hz0:acc.size=i:=by rw[<-gQ,<-hys.length,hyl]
  have hbig:i+1<=ig:=bT (bT hil hsm) (by decide);refine ak (jX hS2 rfl (aB ⟨fY PySem.F.plain_extend_loop _,?_⟩) (by rw[hz0];exact Nat.le_of_succ_le hbig) (by rw[Array.size_push,hz0];exact cQ hbig));have RE:C.Rep (ρ++ρ'++ρ2) (hV.update S (Obj.mapSeq (·.push cy))) σ₁:=Rep.other (Rep.weak (C:=C) g1 hsys RC) (cB ..).extBut ap2 hn;rw[aj]at RE ap2;refine ih (i+1) σ₁ (ρ'++ρ2) _ tk2 (acc.push cy) _ (ys++[y]) ((List.cons.inj hd).2) hil RE ap2 (b8 (Obj.mapSeq (·.push cy)) hS2 rfl) ?_ (by rw[aq,hyl];rfl) (by rw[hz];nofun) λ zs τ ρ'' h' tk' acc' n' e RF hS4 hv4=>hR (y::zs) τ ρ'' h' tk' acc' n' (e0.trans (by rw[e];rfl)) RF hS4 (by rw[aj]at hv4;exact hv4)
  rw[Array.toList_push,<-aj];exact(hys.mono λ _ _=>VR.mono).append (.cons hvy .nil)
end
section
variable {prog:cI}{w:eZ}{A:bJ}{E:ao->aD->Prop}{s:aD}
theorem ab3{m t f:aR}(hm:s.heap.get? m=some (vL t f)){Q:ao->aD->Prop}(h:Q (.ref m) s):bI (model prog w) A (pyIter (.ref m)) Q E s:=by
 have hT:s.TypeIs (.ref m) "map":=⟨_,hm,rfl⟩;refine wpAny_pyIter_slot hT MP.slot_iter (d7 MP.slot_iter hT MP.entry_iter ?_ (MP.args_iter _));exact aB ⟨_,rfl,"map",_,hT,MP.slot_next.lookup,h⟩
theorem Rq{m t f:aR}(hm:s.heap.get? m=some (vL t f)){Q:List ao->aD->Prop}
  (h:∀h',Sub s.heap h'->h'.get? s.heap.objs.size=some (uG #[] 2)->f9 (model prog w) A (.builtin "list.extend.loop" ⟨[.ref s.heap.objs.size,.ref m,.ref s.heap.objs.size],[]⟩)
   (λ r s'=>∃acc n,r=.ok (.ret (.ref s.heap.objs.size))/\s'.heap.get? s.heap.objs.size=some (uG acc n)/\Q acc.toList s') {s with heap:=h'}):bI (model prog w) A (collect (.ref m)) Q E s:=by
 have hm1:(s.heap.push {cls:=.type "list",data:=.seq ([]:List ao).toArray}).get? m=some (vL t f):=bB _ hm;have hT1:({s with heap:=s.heap.push {cls:=.type "list",data:=.seq ([]:List ao).toArray}}:aD).TypeIs (.ref m) "map":=⟨_,hm1,rfl⟩;refine ak (wpAny_runValue (fK PySem.F.entry_proto_collect ?_));refine ak (fQ ?_);refine aB ⟨fY PySem.F.plain_list_iadd _,fK PySem.F.entry_list_iadd ?_⟩;show bI _ A.in1 (Builtin.List.listExtendWith (.ref s.heap.objs.size) (.ref m) (.ref s.heap.objs.size)) _ _ _;refine ak (wpAny_typeOf hT1 ?_);have h1:Builtin.List.listSameRef (.ref s.heap.objs.size) (.ref m)=false:=by simp[Builtin.List.listSameRef,(gb (gM hm))]
 dsimp only[h1,if_false];simp only[h1,if_false];refine ak (ab3 hm1 ?_);refine ak (cJ ?_);refine ak (xg hT1 MP.no_len ?_);refine ak (xg hT1 MP.no_hint ?_);refine aB ?_;show bI _ A.in1 (rule "list.extend.makes-room" >>= λ _=>Builtin.List.listTouch (.ref s.heap.objs.size) >>= λ _=>
  again (.builtin "list.extend.loop" ⟨[.ref s.heap.objs.size,.ref m,.ref s.heap.objs.size],[]⟩)) _ _ _
 refine ak (lz ?_);have hSA:(s.heap.push {cls:=.type "list",data:=.seq ([]:List ao).toArray}).get? s.heap.objs.size=some {cls:=.type "list",data:=.seq ([]:List ao).toArray}:=bW _ rfl;refine ak ?_;refine ak (jX hSA rfl ?_);have hSB:=b8 (Obj.mapSeq (·.push Value.none)) hSA rfl;refine jX hSB rfl ?_;have oth:∀b o,s.heap.get? b=some o->
   (((s.heap.push {cls:=.type "list",data:=.seq ([]:List ao).toArray}).update s.heap.objs.size (Obj.mapSeq (·.push Value.none))).update s.heap.objs.size (Obj.mapSeq (·.pop))).get? b=some o:=
  λ b o e=>(eO _ _ (gb (gM e))).trans ((eO _ _ (gb (gM e))).trans (bB _ e))
 refine aB ⟨fY PySem.F.plain_extend_loop _,qU (h _ oth (b8 (Obj.mapSeq (·.pop)) hSB rfl)) λ r s' z=>?_⟩;obtain⟨acc,n,rfl,z1,z2⟩:=z;exact ak (wpAny_load z1 (aB z2))
theorem Y9{m t f:aR}(hm:s.heap.get? m=some (vL t f)){Q:ao->aD->Prop}
  (h:bI (model prog w) A.in1.in1 (collect (.ref m)) (λ vs s'=>vs.length<=ig/\Q (.ref s'.heap.objs.size) {s' with heap:=s'.heap.push {cls:=.type "tuple",data:=.seq vs.toArray}}) E s):bI (model prog w) A (call (.type "tuple") [.ref m]) Q E s:=by
 have hT:s.TypeIs (.ref m) "map":=⟨_,hm,rfl⟩;refine callType_codes (Q₁:=λ obj sC=>sC.TypeIs obj "tuple"/\Q obj sC) PySem.F.called_tuple (PySem.F.typeCall_tuple_1 _) PySem.F.entry_object_init ?_ λ obj sC hH=>?_
 ·refine xj ?_;refine ak (nO (PySem.F.newCall_tuple_1 _) (aB ⟨fY PySem.F.plain_tuple_new _,fK PySem.F.entry_tuple_new ?_⟩));rw[Around.under_plainId PySem.F.plain_tuple_new _];have hsub:=sub_tuple_self;have hinit:=init_tuple_lookup;have hmh:=madeHere_tuple;have hc:∀{Q':List ao->aD->Prop}{E':ao->aD->Prop},((∀vs s',(vs.length<=ig/\Q (.ref s'.heap.objs.size) {s' with heap:=s'.heap.push {cls:=.type "tuple",data:=.seq vs.toArray}})->Q' vs s')/\∀e s',E e s'->E' e s')->bI (model prog w) A.in1.in1 (collect (.ref m)) Q' E' s:=λ x=>cO h x.1 x.2
  wp_walk using wpAny_typeOf hT,hc
  refine⟨λ vs s' q=>?_,λ e s' q=>q⟩;show bI _ _ (Builtin.Tuple.tupleExact vs.toArray >>= λ v=>ret v) _ _ _;refine ak (fQ ?_ (by show vs.toArray.size<=ig;simpa using q.1));exact aB ⟨⟨_,bW _ rfl,rfl⟩,q.2⟩
 ·exact⟨hH.1,PySem.F.args_object_init_2 obj _,object_init_meets PySem.F.called_tuple.init.lookup PySem.F.called_tuple.made (by decide) prog w A.in1 _ sC ⟨hH.1,rfl,hH.2⟩⟩
end
section
variable {C:Cx}{A:bJ}{ρ:List aR}{s:aD}{Y:St}{en:En}{env:Env}{d:Nat}
theorem dm.bare(EV:dm C A ρ en env){ρ':List aR}(h1:k0<=ρ'.length)(h2:ρ'[0]?=some uz):dm C A ρ' {en with cells:=[]} env:=
 ⟨EV.scope,EV.kind,EV.locals,EV.globals,EV.builtins,λ x k e=>(nomatch e),EV.free,EV.units,EV.room,h2,h1,EV.own⟩
theorem ab4(hc:tV d)(W:yw d C)(EV:dm C A ρ en env)(hfree:en.free=true)(hown:en.own=true)(R:C.Rep ρ s.heap Y){a:Nat}{args:List V}{cvs:List ao}(hv:cX (VR ρ) args cvs):
  C.Snd A (call (.ref a) cvs) ρ (aG d a args Y) VR s:=λ hbad=>
 sO (qU (hc W EV hown (EV.free hfree) rfl (by have:=EV.room.1;lia) EV.room.2 R hv hbad) λ r s' x=>by
  induction r with
  |error e=>exact x
  |ok f=>induction f<;>exact x)
theorem Ux(hc:tV d)(W:yw d C)(EV:dm C A ρ en env)(hfree:en.free=true)(hown:en.own=true)(R:C.Rep ρ s.heap Y){m f kt k l:Nat}{xs:List V}{c:ao}(h:VR ρ (.ref m) c)(e:Y.sto[m]?=some (.mapo f kt))(hs:small xs.length=true)(hk:k0<=k):
  C.Snd A (call (.type "tuple") [c]) ρ ((jT (aG d) f m kt l k xs 0 xs Y).bindN λ ys Y=>Y.new (.tup ys)) VR s:=by
 obtain⟨ma,ha,rfl⟩:=h;obtain⟨cm,m1,ta,m2,rfl⟩:=R.objs _ _ _ e ha;intro hb;obtain⟨zs,τ,hz,hb2⟩:=bindN_ok hb;rw[hb2];have hA:=EV.free hfree;refine Y9 m1 (Rq m1 λ hH k1 hS=>?_);have hSn:s.heap.get? s.heap.objs.size=none:=dg (bV _);refine ab2 (A:=A.in1.in1) (cl:=aG d) (f:=f) (m:=m) (kt:=kt) (l:=l) (k:=k) (xs:=xs) hA (by simpa [small]using hs) EV.stat EV.files ha hk (jt (λ b o e=>Mine.Rep.keep R b o e) hSn) (Mine.Rep.sysIn R) (λ g hg ρ' s' Y' x cx q1 q2 R' hx=>?_)
  xs 0 Y [] hH s.toks #[] 2 [] rfl (dR _) (by rw[aW];exact R.junk k1) (by rw[aW];exact jb.new R hSn) hS .nil rfl (by rw[hz];nofun) λ zs' τ' ρ'' h' tk' acc n e1 RC hS2 hv2=>?_
 ·intro hbad;have EV':dm (C.on g) A ρ' {en with cells:=[]} env:=dm.bare (dm.on EV) q1 q2;refine sO (qU (hc (C:=C.on g) (A:=A.in1.in1.in1.in1) (A₀:=A) (W.on hg) EV' hown hA rfl ?_ EV.room.2 R' (.cons hx .nil) hbad) λ r s' x=>?_)
  ·have:=EV.room.1;show A.units+1+1+1+1+10*C.room+93 < cLine;lia
  ·induction r with
   |error e=>exact x
   |ok f=>induction f<;>exact x
 ·rw[hz]at e1;cases e1;refine⟨acc,n,rfl,hS2,?_,?_⟩
  ·have h1:acc.toList.length=zs.length:=hv2.length.symm;have h2:zs.length<=xs.length:=by
    have:∀(r:List V) (i:Nat) (Y:St) (zs:List V) (τ:St),jT (aG d) f m kt l k xs i r Y=.ok zs τ->zs.length<=r.length:=by
     intro r;induction r with
     |nil=>
      intro i Y zs τ e;dsimp only[jT]at e;split at e
      ·cases e;exact bV _
      ·first|exact ns e|exact qW e|contradiction
     |cons x r ih=>
      intro i Y zs τ e;dsimp only[jT]at e;split at e
      ·have hne:(aG d f [x] (Y.upd k (.eit l (i+1)))).bindN (λ y Y=>(jT (aG d) f m kt l k xs (i+1) r Y).bindN λ ys Y=>.ok (y::ys) Y)≠.bad:=by rw[e];nofun
       obtain⟨y,σ₁,e1,e2⟩:=bindN_ok hne;rw[e2]at hne;obtain⟨ys,σ₂,e3,e4⟩:=bindN_ok hne;simp only[e2,e4]at e;clear e4;cases e;exact pP (ih _ _ _ _ e3)
      ·first|exact ns e|exact qW e|contradiction
    exact this _ _ _ _ _ hz
   have h3:xs.length<=100000:=of_decide_eq_true hs;rw[h1,sizeLine_eq];lia
  ·have RE:=Rep.push (co:={cls:=.type "tuple",data:=.seq acc.toList.toArray}) (o:=.tup zs) RC rfl ⟨acc.toList.toArray,0,rfl,by simpa using hv2.mono λ _ _=>VR.mono⟩;refine⟨_,_,h'.push {cls:=.type "tuple",data:=.seq acc.toList.toArray},tk',ρ''++[h'.objs.size],rfl,rfl,by rw[<-aj];exact RE,h'.objs.size,?_,rfl⟩;rw[<-(Mine.Rep.len RC)];simp
end
section
variable {C:Cx}{A:bJ}{ρ:List aR}{s:aD}{Y:St}{en:En}{env:Env}{d:Nat}
theorem ah2{v:V}{cvs:List ao}(h:cX (VR ρ) [v] cvs):∃c,cvs=[c]/\VR ρ v c:=by
 cases h with|cons h1 h2=>cases h2;exact⟨_,rfl,h1⟩
theorem alU{v u:V}{cvs:List ao}(h:cX (VR ρ) [v,u] cvs):∃c d,cvs=[c,d]/\VR ρ v c/\VR ρ u d:=by
 cases h with|cons h1 h2=>obtain⟨d,rfl,h3⟩:=ah2 h2;exact⟨_,d,rfl,h1,h3⟩
theorem Og{v:V}{i:Int}(h:v.int? =some i):v=.int i:=by induction v<;>first|exact ns h|(cases h;rfl)
theorem afI{v:V}{i:Str}(h:v.str? =some i):v=.str i:=by induction v<;>first|exact ns h|(cases h;rfl)
theorem ah3{v:V}{i:Nat}(h:v.fn? =some i):v=.fn i:=by induction v<;>first|exact ns h|(cases h;rfl)
theorem Oh{v:V}{i:Nat}(h:v.ref? =some i):v=.ref i:=by induction v<;>first|exact ns h|(cases h;rfl)
theorem vM{f:ao}{F:V->aC V}{args:List V}{cvs:List ao}(h:∀v c,VR ρ v c->C.Snd A (call f [c]) ρ (F v) VR s)(hv:cX (VR ρ) args cvs):C.Snd A (call f cvs) ρ (onS (rm args) F) VR s:=.onS λ v e=>by
 rw[mj e]at hv;obtain⟨c,_,e,q1,q⟩:=hv.cons_inv;rw[e,q.nil_inv];exact h _ _ q1
theorem H9{f:ao}{F:V×V->aC V}{args:List V}{cvs:List ao}(h:∀v c d,VR ρ v.1 c->VR ρ v.2 d->C.Snd A (call f [c,d]) ρ (F v) VR s)(hv:cX (VR ρ) args cvs):C.Snd A (call f cvs) ρ (onS (Jq args) F) VR s:=.onS λ v e=>by
 rw[xJ e]at hv;obtain⟨c,d,e,q1,q2⟩:=hv.two;rw[e];exact h _ _ _ q1 q2
theorem W6{t:Sem ao}{v:V}{c:ao}{F:Int->aC V}(hv:VR ρ v c)(h:∀i,VR ρ (.int i) c->C.Snd A t ρ (F i) VR s):C.Snd A t ρ (onS v.int? F) VR s:=.onS λ i e=>h i (Og e▸hv)
theorem Ba{t:Sem ao}{v:V}{c:ao}{F:Nat->aC V}(hv:VR ρ v c)(h:∀i,VR ρ (.ref i) c->C.Snd A t ρ (F i) VR s):C.Snd A t ρ (onS v.ref? F) VR s:=.onS λ i e=>h i (Oh e▸hv)
theorem vN{f:ao}{args:List V}{cvs:List ao}{k:Nat->List V->aC V}(h:∀l xs c,VR ρ (.ref l) c->Y.sto[l]?=some (.list xs)->C.Snd A (call f [c]) ρ (k l xs) VR s)(hv:cX (VR ρ) args cvs):C.Snd A (call f cvs) ρ (Ad args Y k) VR s:=
 vM (λ _ _ hc=>Ba hc λ l hc=>.onS λ xs e=>h l xs _ hc (iZ e)) hv
theorem Rr{a:Nat}{x:List Str}(h:yo Y a=some x):∃xs,Y.sto[a]?=some (.list xs)/\jP xs=some x:=by
 obtain⟨xs,h1,h2⟩:=bk.mp h;exact⟨xs,iZ h1,h2⟩
theorem Rt(gt:Bool)(R:C.Rep ρ s.heap Y)(hA:A.handled=none)(hu:AUn A){args:List V}{cvs:List ao}(hv:cX (VR ρ) args cvs):C.Snd A (call (mmV gt) cvs) ρ (GQ gt args Y) VR s:=
 vN (λ l vs c hc e=>.onS λ p e2=>.onS λ a ea=>.onS λ b eb=>.onS λ x ex=>.onS λ y ey=>by
  rw[xJ e2,Oh ea,Oh eb]at e;obtain⟨xs,f1,f2⟩:=Rr ex;obtain⟨ys,g1,g2⟩:=Rr ey;have:=ahY gt R hA hu hc e f1 g1 f2 g2;induction gt<;>exact this) hv
theorem ab5(R:C.Rep ρ s.heap Y){args:List V}{cvs:List ao}(hv:cX (VR ρ) args cvs):C.Snd A (call (Bi.len).val cvs) ρ (zH args Y) VR s:=by
 refine vM (λ v c h=>?_) hv;induction v with
 |str x=>exact .cond λ hs=>Us R h hs
 |ref l=>
  refine .onB λ o e=>?_
  induction o with
  |list xs=>exact .cond λ hs=>Rb R h e hs
  |tup xs=>exact .cond λ hs=>Ut R h e hs
  |_=>exact .of_bad
 |_=>exact .of_bad
theorem Ru(R:C.Rep ρ s.heap Y)(hA:A.handled=none){args:List V}{cvs:List ao}(hv:cX (VR ρ) args cvs):C.Snd A (call (Bi.sorted).val cvs) ρ (vB args Y) VR s:=by
 refine vM (λ _ _ h=>Ba h λ l h=>.onB λ o e=>?_) hv;induction o with
 |dict kvs ep=>exact .cond λ hs=>HX R hA h e (by rw[au]at hs;exact hs)
 |tup xs=>exact .onS λ ss hs=>.cond λ h64=>JF R h e hs h64
 |_=>exact .of_bad
open Classical in
theorem Rv(R:C.Rep ρ s.heap Y){args:List V}{cvs:List ao}(hv:cX (VR ρ) args cvs):C.Snd A (call (Bi.isinstance).val cvs) ρ (nR args Y) VR s:=by
 refine H9 (λ⟨v,u⟩ c d h1 h2=>?_) hv;induction u with
 |bi b=>
  refine .onS λ x e=>.cond λ hb=>?_
  cases hb;obtain rfl:d=.type "bytes":=h2;exact HF R (afI e▸h1)
 |ref t=>exact .cond λ hq=>JD R h1 hq.1 h2 hq.2
 |_=>exact .of_bad
theorem ab6(R:C.Rep ρ s.heap Y)(hA:A.handled=none)(hu:AUn A){args:List V}{cvs:List ao}(hv:cX (VR ρ) args cvs):C.Snd A (call (Bi.min).val cvs) ρ (Qm args Y) VR s:=by
 unfold Qm;induction q:agF args with
 |none=>exact Rt false R hA hu hv
 |some p=>
  obtain⟨u,h1,h2⟩:=bk.mp q;obtain⟨i,h3,h4⟩:=bk.mp h2;obtain⟨j,h5,h6⟩:=bx.mp h4;rw[xJ h1,Og h3,Og h5]at hv;obtain⟨c,d,e,q1,q2⟩:=hv.two;rw[e,<-h6];exact abP R q1 q2 hA
inductive afJ(m f kt:Nat)(Y:St)(cl:Nat->List V->St->aC V):Prop
 |mk (k l:Nat) (xs:List V) (hs:small xs.length=true) (hk:k0<=k) (e:Ac cl m f kt Y=(jT cl f m kt l k xs 0 xs Y).bindN λ ys Y=>Y.new (.tup ys))
theorem Uy{m f kt:Nat}{cl:Nat->List V->St->aC V}(h:Ac cl m f kt Y≠.bad):afJ m f kt Y cl:=by
 obtain⟨u,e1,h1⟩:=Dc (Eq.refl (Ac cl m f kt Y)) h;obtain⟨k,e2,h2⟩:=Dc h1 h;obtain⟨p,e3,h3⟩:=Dc h2 h;obtain⟨xs,e4,h4⟩:=Dc h3 h;obtain⟨hq,h5⟩:=Hq h4 h;simp only[bh,decide_eq_true_eq]at hq;exact⟨k,p.1,xs,hq.1.1,hq.1.2,h5.symm⟩
theorem ab7(hc:tV d)(W:yw d C)(EV:dm C A ρ en env)(hfree:en.free=true)(hown:en.own=true)(R:C.Rep ρ s.heap Y){args:List V}{cvs:List ao}(hv:cX (VR ρ) args cvs):C.Snd A (call (Bi.tuple).val cvs) ρ (ajX (aG d) args Y) VR s:=by
 refine vM (λ _ _ h=>Ba h λ m h=>.onS λ o e=>?_) hv;induction o with
 |list xs=>exact .cond λ hs=>Rc R h e hs
 |mapo f kt=>
  intro hb;obtain⟨k,l,xs,hs,hk,e'⟩:=Uy (m:=m) (f:=f) hb;refine(?_:C.Snd A _ ρ (Ac (aG d) m f kt Y) VR s) hb;rw[e'];exact Ux hc W EV hfree hown R h e hs hk
 |_=>exact .of_bad
open Classical in
theorem Rw(hc:tV d)(W:yw d C)(EV:dm C A ρ en env)(hfree:en.free=true)(hown:en.own=true)(R:C.Rep ρ s.heap Y){f:Bi}{args:List V}{cvs:List ao}(hv:cX (VR ρ) args cvs):
  C.Snd A (call f.val cvs) ρ (gq (aG d) f args Y) VR s:=by
 have hA:=EV.free hfree;induction f with
 |abs=>exact vM (λ _ _ h=>W6 h λ i h=>afA R h) hv
 |len=>exact ab5 R hv
 |sorted=>exact Ru R hA hv
 |iter=>exact vN (λ l xs c h e=>abR R h e) hv
 |issubclass=>
  refine H9 (λ v c d h1 h2=>Ba h2 λ t h2=>.cond λ hq=>?_) hv;rw[hq.1]at h1;obtain rfl:c=.type "str":=h1;exact YX R h2 hq.2
 |isinstance=>exact Rv R hv
 |min=>exact ab6 R hA EV.units hv
 |max=>exact Rt true R hA EV.units hv
 |range=>exact vM (λ _ _ h=>W6 h λ n h=>.cond λ hq=>YW R h hq.1 hq.2) hv
 |tuple=>exact ab7 hc W EV hfree hown R hv
 |bool=>exact vN (λ l xs c h e=>.cond λ hs=>Oc R h e hs) hv
 |set=>
   refine .cond λ hq=>?_
   induction hv with
   |nil=>exact abO R
   |cons _ _=>exact qW hq
 |type=>exact vM (λ v c h=>.onS λ b e=>Uu R h e) hv
 |map=>exact H9 (λ v c d h1 h2=>.onS λ f ef=>Ba h2 λ l h2=>.onS λ xs e=>by
   rw[ah3 ef]at h1;obtain rfl:c=.ref _:=h1;exact afG R h2 (iZ e)) hv
 |enumerate=>exact vN (λ l xs c h e=>abQ R h e) hv
 |_=>exact .of_bad
end
section
variable {C:Cx}{A:bJ}{ρ:List aR}{s:aD}{Y:St}{en:En}{env:Env}{d:Nat}
set_option tactic.hygienic true in
theorem ab8(W:Wf C)(R:C.Rep ρ s.heap Y){v:V}{c:ao}{x:Str}(hv:VR ρ v c):C.Snd A (getAttr c x true) ρ (fu v x Y) VR s:=by
 induction v
 case ref i=>
  by_cases h:∃l j,Y.sto[i]?=some (.liter l j)
  ·obtain⟨l,j,e⟩:=h;refine(Cx.Snd.onS λ o e'=>?_:C.Snd A _ ρ (onS (Y.sto[i]?) (aaO i x Y)) VR s);cases e.symm.trans e';refine .grd λ hx=>?_
   cases eq_of_beq hx;exact Y6 R hv e
  ·exact YS W R hv λ l j e=>h ⟨l,j,e⟩
 all_goals exact .of_bad
set_option tactic.hygienic true in
theorem Rx(W:Wf C)(R:C.Rep ρ s.heap Y){v u:V}{c d:ao}{x:Str}(hv:VR ρ v c)(hu:VR ρ u d):C.Snd A (setAttr c x d) ρ (dz v x u Y) rB s:=by
 induction v
 case ref i=>exact Ob W R hv hu
 all_goals exact .of_bad
theorem Fo{a:Nat}{args:List V}{Y:St}(h:aG d a args Y≠.bad):a=137\/a=40\/∃f,rA a=some f:=by
 induction d with
 |zero=>exact absurd rfl h
 |succ d=>
  by_cases h1:a=137
  ·exact .inl h1
  by_cases h2:a=40
  ·exact .inr (.inl h2)
  rw[zQ _ _ _ _ h1 h2]at h;induction hf:rA a with
  |none=>rw[hf]at h;exact absurd rfl h
  |some f=>exact .inr (.inr ⟨f,rfl⟩)
set_option tactic.hygienic true in
theorem ab9(hc:tV d):zN d (aG d):=λ C A en env W=>
 {wf:=W.1
  attr:=λ R hv=>ab8 W.1 R hv
  setAttr:=λ R hv hu=>Rx W.1 R hv hu
  callee:=λ pl R hv h=>Ur W.1 R pl hv h
  keep:=λ{ρ s Y f cf vs} R hv h=>by
   unfold GR at h;induction f
   case fn a=>
    dsimp only at h;split at h
    ·obtain rfl:cf=.ref a:=hv;exact W5 W.1 R (Fo h)
    ·exact absurd rfl h
   case bi b=>
    clear h;obtain rfl:cf=b.val:=hv;induction b<;>exact⟨.machine,.inr (.inl rfl),Looks.now⟩
   case ref k=>
    dsimp only at h;split at h
    ·obtain⟨it,e,_⟩:=Dc (Eq.refl (JZ k _)) h;obtain⟨a,ha,rfl⟩:=hv;obtain⟨co,h1,ita,h2,rfl⟩:=R.objs _ _ _ (uy (g:=.bnext) (λ _ _=>Kd) e) ha;exact Y5 h1
    ·exact absurd rfl h
   all_goals exact absurd rfl h
  call:=λ{ρ s Y f cf vs cvs} EV R hv hvs=>by
   unfold GR;induction f
   case fn a=>
    dsimp only;split
    ·rename_i hq
     rw[bh]at hq;obtain rfl:cf=.ref a:=hv;exact ab4 hc W EV hq.1 hq.2 R hvs
    ·exact .of_bad
   case bi b=>
    dsimp only;split
    ·rename_i hq
     rw[bh]at hq;obtain rfl:cf=b.val:=hv;exact Rw hc W EV hq.1 hq.2 R hvs
    ·exact .of_bad
   case ref k=>
    dsimp only;split
    ·rename_i hq
     simp only[bh]at hq;induction vs with
     |nil=>cases hvs;exact abW R (EV.free hq.1.1) hv
     |cons _ _=>cases hq.2
    ·exact .of_bad
   all_goals exact .of_bad
  keepU:=λ{ρ s Y f c vs} R h=>by
   unfold CN at h;dsimp only at h;split at h
   ·exact W5 W.1 R (Fo h)
   ·exact absurd rfl h
  callU:=λ{ρ s Y f v c vs cvs} EV R hv hvs=>by
   unfold CN;dsimp only;split
   ·rename_i hq
    rw[bh]at hq;exact ab4 hc W EV hq.1 hq.2 R (.cons hv hvs)
   ·exact .of_bad}
theorem zR:∀d,tV d
 |0=>Rn
 |d+1=>Ro (ab9 (zR d)) (zR d)
end
noncomputable def files:List (List Str):=[["a","x"],["a","b","x"],["a","b","y"],["c","x"],["c","b","z"],["w"]]
noncomputable def FZ(ns:List Int):List O:=.list ((gj 6).map λ i=>.ref (i+1))::files.map (λ p=>.list (p.map .str))++[.list (ns.map .int)]
noncomputable def tW(sa:aR):List aR:=[290,284,285,286,287,288,289,sa]
theorem acd{α:Type}{a:α}{Y:St}:aC.ok a Y≠.bad:=λ h=>by cases h
theorem ace{prog:cI}{w:eZ}{sa:aR}{h:cG}{ns:List Int}(hobj:∀(i:Nat) o x,(FZ ns)[i]?=some o->(tW sa)[i]?=some x->∃co,h.get? x=some co/\OR prog w (tW sa) o co){x:aR}(hx:x∈tW sa):∃co,h.get? x=some co:=by
 obtain⟨i,hi,e⟩:=iJ hx;obtain⟨co,h1,_⟩:=hobj i _ x (bf (show i < (FZ ns).length from hi)) (by rw[bf hi,e]);exact⟨co,h1⟩
theorem Za{f:Fn}{v:V}{Y σ₁:St}{bs:List (Str×V)}(hva:f.params.vararg=none)(hnodef:¬ [v].length+1=f.params.args.length)(hbm:Eu f [v] Y=some (bs,σ₁)):
  (f.params.posonlyargs=[]/\f.params.kwonlyargs=[]/\f.params.kwarg=none)/\σ₁=Y/\∃x,f.params.args.map (·.arg)=[x]/\bs=[(x,v)]:=by
 unfold Eu at hbm;by_cases hc:(f.params.posonlyargs.isEmpty&&f.params.kwonlyargs.isEmpty&&f.params.kwarg.isNone&&[v].length<=1000)=true
 ·rw[if_pos hc,hva]at hbm;simp only[bh,iW,lQ]at hc;refine⟨⟨hc.1.1.1,hc.1.1.2,hc.1.2⟩,?_⟩;dsimp only at hbm;by_cases hl:[v].length=f.params.args.length
  ·rw[if_pos hl]at hbm;obtain⟨rfl,rfl⟩:=Prod.mk.inj (Option.some.inj hbm);generalize f.params.args=l at hl;match l,hl with
   |[y],_=>exact⟨rfl,y.arg,rfl,rfl⟩
  ·rw[if_neg hl,if_neg (by simp only[bh,decide_eq_true_eq];exact λ q=>hnodef q.1)]at hbm;contradiction
 ·rw[if_neg hc]at hbm;contradiction
set_option tactic.hygienic true in
theorem Zb{l:List (Str×Option V)}{r:aC Fl}{b:Bool}{τ:St}(h:Dg l r=.ok (.bool b) τ):∃Y',r=.ok (.ret (.bool b)) Y':=by
 induction r with
 |ok f Y'=>induction f with
  |ret v=>obtain⟨rfl,_⟩:=aC.ok.inj h;exact⟨Y',rfl⟩
  |next=>nomatch h
  |brk=>nomatch h
  |cont=>nomatch h
 |exc=>nomatch h
 |bad=>nomatch h
noncomputable def Cx.top(prog:cI)(w:eZ)(h₀:cG)(L:aR)(d:Nat):Cx:={prog:=prog,w:=w,h₀:=h₀,FS:=[],L:=L,room:=d}
theorem afK{d:Nat}{prog:cI}{w:eZ}{g hV:cG}{ns:List Int}{sa:aR}{f:Fn}{px:Str}{L':aR}{cenv:Env}(X:Gq f g [(px,.ref sa)] L' cenv hV)(hloc:f.scope.names.lookup px=some .local)
  (hobj:∀(i:Nat) o x,(FZ ns)[i]?=some o->(tW sa)[i]?=some x->∃co,g.get? x=some co/\OR prog w (tW sa) o co) (hnd:(tW sa).Nodup) (hsys:∀x∈tW sa,(x==gk)=false) (hsin:(g.get? gk).isSome=true) (hlt:∀x∈tW sa,x < L'):
  (Cx.top prog w g L' d).Rep (tW sa) hV ⟨xH [(px,.ref 7)] (zK f.scope),FZ ns⟩ where
 keep:=X.keep
 loc:=⟨_,X.ns,Hy (binds:=[(px,.ref sa)]) (.cons ⟨rfl,sa,rfl,rfl⟩ .nil) (List.forall_mem_singleton.mpr hloc) λ y u e=>(Fi e).elim⟩
 newL:=X.fresh L' (bV _)
 len:=rfl
 nodup:=hnd
 notL:=λ q=>mC _ (hlt _ q)
 fresh:=λ i a hi e=>absurd (aN.mp e).1 (Nat.not_lt_of_le hi)
 objs:=λ i o a e e'=>let ⟨co,h1,h2⟩:=hobj i o a e e';⟨co,X.keep _ _ h1,h2⟩
 callers:=λ _ h=>absurd h pQ
 sysIn:=hsin
 sys:=hsys
 fsnd:=oR
theorem acf{d:Nat}{prog:cI}{w:eZ}{s:aD}{ns:List Int}{sa:aR}{f:Fn}{a:Nat}{τ:St}{hb:cG}(hd100:d<=100)(F0:abi prog w hb)(F2:T6 prog w hb)(kb:∀b o,hb.get? b=some o->s.heap.get? b=some o)(hf:rA a=some f)(hva:f.params.vararg=none)(hnodef:¬ [V.ref 7].length+1=f.params.args.length)
  (hobj:∀(i:Nat) o x,(FZ ns)[i]?=some o->(tW sa)[i]?=some x->∃co,s.heap.get? x=some co/\OR prog w (tW sa) o co) (hnd:(tW sa).Nodup) (hsys:∀x∈tW sa,(x==gk)=false) (hsin:(s.heap.get? gk).isSome=true)
  (hM:wM (aG d) f [.ref 7] {loc:=[],sto:=FZ ns}=.ok (.bool true) τ):
  bI (model prog w) callerA (call (.ref a) [.ref sa]) (λ v s'=>v=.bool true/\∃h' tk,s'={s with heap:=h',toks:=tk}/\∀b o,s.heap.get? b=some o->h'.get? b=some o) (λ _ _=>False) s:=by
 have F:=F2.fns a f hf;obtain⟨bs,σ₁,hbm,e⟩:=Q9 (cl:=aG d) (f:=f) (args:=[.ref 7]) (Y:=⟨[],FZ ns⟩) (by rw[hM];exact acd);obtain⟨⟨p1,p2,p3⟩,rfl,px,p4,rfl⟩:=Za hva hnodef hbm;simp only[e]at hM;obtain⟨Y',hr⟩:=Zb hM;have hloc:f.scope.names.lookup px=some .local:=F.locals px (.inl (by rw[p4];exact .head _));refine sO (Kz F F2.lim kb (by decide) λ{fd dl} hpar hdl hd1 Q hQ=>?_);rw[<-hpar]at p1 p2 p3 p4 hva;refine Hw p1 p2 p3 hva (by rw[hpar];exact F.names) (by have:=congrArg yh p4;simpa using this.symm) (λ{Q} q=>hdl _ _ _ _ _ kb q) ?_;rw[p4];refine hQ _ s.heap (λ _ _ e=>e) (List.forall_mem_singleton.mpr hloc) λ cenv L' hV tk2 X=>?_
 have hlt:∀x∈tW sa,x < L':=λ x hx=>Nat.lt_of_not_le λ q=>by
  obtain⟨co,h1⟩:=ace hobj hx;rw[X.fresh x q]at h1;contradiction
 obtain⟨cs,RC,hcs⟩:=X.rep F.cells (afK (d:=d) X hloc hobj hnd hsys hsin hlt) λ b hb=>⟨⟨λ q=>Nat.lt_asymm (hlt _ q) hb,gb hb,λ _ h=>absurd h pQ⟩,X.fresh b (iQ hb)⟩
 have EV':dm (Cx.top prog w s.heap L' d) (callerA.deeper cenv) (tW sa++cs) {scope:=f.scope,cells:=lZ (fC f.scope) (FZ ns).length} cenv:=by
  refine⟨X.scope,X.scope▸F.kind,X.locals,X.globals,X.builtins,hcs,λ _=>rfl,by show(4:Nat)+3+100 < cLine;decide,?_,rfl,by simp[tW,k0],λ _=>⟨X.frame,rfl,λ _ h=>absurd h pQ⟩⟩;show(4:Nat)+3+10*d+100 < cLine/\1+claimMargin+1+d < gP;exact⟨jR (show 4+3+10*d+100<=1107 by omega) (by decide),jR (Nat.add_le_add_left hd100 _) (by decide)⟩
 refine codeAny_func (cO (iV (N5 (ab9 (zR d)) 60 _ _ _ _ (⟨⟨hb,F0,kb,F2⟩,bV _⟩)) f.body (s:={s with heap:=hV,toks:=tk2}) EV' RC (by rw[hr];exact acd)) ?_ ?_)
 ·rintro fl s' ⟨fl',Y',h',tk,ρ',e,rfl,RE,hfl⟩;obtain⟨rfl,rfl⟩:=aC.ok.inj (hr.symm.trans e);obtain⟨c,rfl,hc⟩:=hfl;exact⟨hc,h',tk,rfl,λ b o e=>Mine.Rep.keep RE b o e⟩
 ·rintro e s' ⟨x',Y',h',tk,ρ',e1,rfl,X⟩;rw[hr]at e1;contradiction
noncomputable def yC:List ao->Option (List Str)
 |[]=>some []
 |.str x _::r=>(yC r).map (x::·)
 |_::_=>none
noncomputable def Dk:List ao->Option (List aR)
 |[]=>some []
 |.ref a::r=>(Dk r).map (a::·)
 |_::_=>none
noncomputable def Oi(h:cG)(a:aR):Option (List ao):=match h.get? a with
 |some ⟨.type t,none,.seq cs _,sl⟩=>if t=="list"&&sl.size==0 then some cs.toList else none
 |_=>none
noncomputable def acg(h:cG)(fd:FuncData):Bool:=match fd.code with
 |.ref c=>(match h.get? c with
  |some ⟨_,_,.fields vs,_⟩=>(match(vs[1]?:Option ao)with
   |some (.str q _)=>q==fd.qualname
   |_=>false)
  |_=>false)
 |_=>false
noncomputable def ach(h:cG)(fd:FuncData):Bool:=match fd.defaults with
 |.none=>fd.params.defaults.length != 1
 |.ref t=>(match h.get? t with
  |some ⟨_,_,.seq xs _,_⟩=>fd.params.defaults.length != 1||xs==#[.none]
  |_=>false)
 |_=>false
noncomputable def Oj(h:cG)(a:Nat):Option (Arguments×FuncBody×Scope×Bool):=match h.get? a with
 |some ⟨_,_,.func fd,_⟩=>some (fd.params,fd.body,fd.scope,fd.globals==cC&&fd.builtins==iG&&fd.closure.isEmpty&&acg h fd&&ach h fd)
 |_=>none
noncomputable def Ol(a:Nat):Option (Arguments×FuncBody×Scope×Bool):=(rA a).map λ f=>(f.params,.stmts f.body,f.scope,true)
noncomputable def vO:List Nat:=G4.map (·.1)++Gj.map (·.1)
noncomputable def uH:List Nat:=[40,41,42,43,55,137,39,136]++vO
noncomputable def zT(h:cG)(as:List Nat):Frag:=as.filterMap λ a=>(h.get? a).map λ o=>(a,o)
noncomputable def aci(h:cG):Bool:=match h.get? 55 with
 |some ⟨.type "type",_,.cls cd,sl⟩=>cd.mro==[.ref 55,.type "ValueError",.type "Exception",.type "BaseException",.type "object"]&&!cd.hasDel&&sl.size==6&&(sl[4]?:Option (Option ao))==some (some (.builtin "ValueError.__new__"))&&h.isNs cd.ns&&h.nsMap cd.ns "__init__"==none
 |_=>false
noncomputable def Uz(h:cG):Bool:=Mx.all (λ p=>h.nsMap cC p.1==some (.ref p.2))&&Mz.all (λ p=>h.nsMap cC p.1==none&&h.nsMap iG p.1==some p.2.val)&&
 h.nsMap cC "_law_files"==some (.ref 290)&&(match h.nsMap cC "_NODE_OUT" with|some (.int k _)=>k==-1|_=>false)&&(match h.nsMap cC "_NODE_DONE" with|some (.int k _)=>k==-2|_=>false)&&
 h.nsMap cC "law"==some (.ref 330)&&h.nsMap cC "CycleError"==some (.ref 55)&&h.nsMap cC "StopIteration"==none&&h.nsMap iG "StopIteration"==some (.type "StopIteration")
noncomputable def acj(K:Frag):Bool:=exmOne K (.ref 55) (.ref 55)==some true&&exmOne K (.type "StopIteration") (.type "StopIteration")==some true
noncomputable def Gr(h:cG):Bool:=(Oi h 290).bind Dk==some [284,285,286,287,288,289]&&files.zipIdx.all λ p=>(Oi h (284+p.2)).bind yC==some p.1
noncomputable def UG(h:cG):Bool:=h.isNs cC&&h.isNs iG&&Uz h&&h.isNs cStatics&&h.nsMap cStatics "sys.recursionlimit"==none&&aci h&&(h.get? gk).any (λ o=>o.cls== .type "dict")&&Gr h&&Ye (zT h uH)&&acj (zT h uH)
noncomputable def ah4(h:cG):Bool×List (Option (Arguments×FuncBody×Scope×Bool)):=(UG h,vO.map (Oj h))
noncomputable def ah5:Bool×List (Option (Arguments×FuncBody×Scope×Bool)):=(true,vO.map Ol)
noncomputable def qv:cI:={PySem.Challenge.pw_il0148_01 with main:={PySem.Challenge.pw_il0148_01.main with body:=[Nb 35]}}
noncomputable def lo:List Str:=["_wall","_NODE_OUT","_NODE_DONE","_NodeInfo","CycleError","TopologicalSorter","_plain_name","ABCMeta","_ABCLike","_abc_plain_meta","fspath","commonprefix","_check_arg_types","_get_sep","join","splitroot","dirname","normpath","abspath","relpath","commonpath","_law_files","_law_pieces","_law_text","_law_walk","_law_loose","_law_alike"]
set_option maxHeartbeats 0 in
theorem left:LeftO PySem.Challenge.pw_il0148_01 qv lo (λ s=>xlAt qv [] s&&recOk [] s) (λ s=>ah4 s.heap) (λ _=>ah5) 2300:=ajN λ w=>by kernel_rfl
theorem Zc(h:cG):∀as:List Nat,(zT h as).In h:=by
 intro as;induction as with
 |nil=>intro a o e;exact ns e
 |cons b r ih=>
  intro a o e;unfold zT at e;dsimp only[List.filterMap_cons]at e;induction q:h.get? b with
  |none=>rw[q]at e;exact ih a o e
  |some ob=>
   rw[q]at e;dsimp only[qF,dG]at e;induction z:a==b with
   |true=>rw[z]at e;cases e;rw[eq_of_beq z];exact q
   |false=>rw[z]at e;exact ih a o e
structure vP(h:cG):Prop where
 mg:h.isNs cC=true
 mb:h.isNs iG=true
 glob:Uz h=true
 st:h.isNs cStatics=true
 lim:h.nsMap cStatics "sys.recursionlimit"=none
 cyc:aci h=true
 sys:(h.get? gk).any (λ o=>o.cls== .type "dict")=true
 lists:Gr h=true
 ko:Ye (zT h uH)=true
 exc:acj (zT h uH)=true
 fns:vO.map (Oj h)=vO.map Ol
theorem afL{h:cG}(e:ah4 h=ah5):vP h:=by
 have e1:=congrArg Prod.fst e;have e1:UG h=true:=e1;unfold UG at e1;simp only[bh,beq_iff_eq]at e1;obtain⟨⟨⟨⟨⟨⟨⟨⟨⟨a,b⟩,c⟩,d⟩,f⟩,g⟩,i⟩,j⟩,k⟩,l⟩:=e1;exact⟨a,b,c,d,f,g,i,j,k,l,(congrArg Prod.snd e)⟩
theorem Ia{α:Type}{l:List (Str×α)}{p:Str×α->Bool}(h:l.all p=true){x:Str}{y:α}(e:l.lookup x=some y):p (x,y)=true:=eX.mp h _ (kO e)
structure ack(h:cG):Prop where
 fn:∀x a,Mx.lookup x=some a->h.nsMap cC x=some (.ref a)
 bi:∀x b,Mz.lookup x=some b->h.nsMap cC x=none/\h.nsMap iG x=some b.val
 files:h.nsMap cC "_law_files"=some (.ref 290)
 out:∃t,h.nsMap cC "_NODE_OUT"=some (.int (-1) t)
 done:∃t,h.nsMap cC "_NODE_DONE"=some (.int (-2) t)
 law:h.nsMap cC "law"=some (.ref 330)
 cyc:h.nsMap cC "CycleError"=some (.ref 55)
 stop:h.nsMap cC "StopIteration"=none/\h.nsMap iG "StopIteration"=some (.type "StopIteration")
set_option tactic.hygienic true in
theorem acn{o:Option ao}{i:Int}(h:(match o with|some (.int k _)=>k==i|_=>false)=true):∃t,o=some (.int i t):=by
 split at h
 ·rename_i k t;rw[eq_of_beq h];exact⟨t,rfl⟩
 ·contradiction
theorem vP.globs{h:cG}(S:vP h):ack h:=by
 have e:=S.glob;unfold Uz at e;simp only[bh]at e;obtain⟨⟨⟨⟨⟨⟨⟨⟨a,b⟩,c⟩,d⟩,f⟩,g0⟩,g⟩,i⟩,j⟩:=e;refine⟨λ x y q=>?_,λ x y q=>?_,eq_of_beq c,acn d,acn f,eq_of_beq g0,eq_of_beq g,eq_of_beq i,eq_of_beq j⟩
 ·exact eq_of_beq (Ia a q)
 ·have:=Ia b q;rw[bh]at this;exact⟨eq_of_beq this.1,eq_of_beq this.2⟩
set_option tactic.hygienic true in
theorem vP.facts{h:cG}(S:vP h){prog:cI}{w:eZ}:abi prog w h:=by
 have G:=S.globs;refine⟨_,_,.of_isNs S.mg,.of_isNs S.mb,λ x v e=>?_⟩;unfold aaM at e;split at e
 ·rename_i a q
  cases e;exact⟨.ref a,.inl (G.fn x a q),λ ρ _=>rfl⟩
 ·split at e
  ·rename_i b q
   cases e;exact⟨b.val,.inr (G.bi x b q),λ ρ _=>rfl⟩
  ·split at e
   ·rename_i q
    cases e;rw[eq_of_beq q];exact⟨.ref 290,.inl G.files,λ ρ hr=>⟨290,hr,rfl⟩⟩
   ·split at e
    ·rename_i q
     cases e;obtain⟨t,ht⟩:=G.out;rw[eq_of_beq q];exact⟨_,.inl ht,λ ρ _=>⟨t,rfl⟩⟩
    ·split at e
     ·rename_i q
      cases e;rw[eq_of_beq q];obtain⟨t,ht⟩:=G.done;exact⟨_,.inl ht,λ ρ _=>⟨t,rfl⟩⟩
     ·contradiction
noncomputable def UJ(f:Fn):Bool:=!f.scope.isCoroutine&&!f.scope.isGenerator&&f.scope.kind== .function&&decide ((f.params.args.map (·.arg)).Nodup)&&(f.params.args.map (·.arg)).all (λ x=>f.scope.names.lookup x==some .local)&&
 (match f.params.vararg with|some r=>f.scope.names.lookup r.arg==some .local|none=>true)&&decide (fC f.scope).Nodup&&(fC f.scope).all λ x=>f.scope.names.lookup x==some .cell
theorem aco:(vO.all λ a=>(rA a).all UJ)=true:=by decide+kernel
set_option tactic.hygienic true in
theorem UL{a:Nat}{f:Fn}(e:rA a=some f):a∈vO:=by
 have lm:∀{β:Type}{l:List (Nat×β)}{y:β},l.lookup a=some y->a∈l.map (·.1):=by
  intro β l y;induction l with
  |nil=>intro e;contradiction
  |cons p r ih=>
   obtain⟨k,v⟩:=p;intro e;dsimp only[dG]at e;induction q:a==k with
   |true=>rw[eq_of_beq q];exact .head _
   |false=>rw[q]at e;exact .tail _ (ih e)
 unfold rA at e;split at e
 ·rename_i i q;exact cg _ (lm q)
 ·split at e
  ·rename_i i j q;exact iu _ (lm q)
  ·contradiction
set_option tactic.hygienic true in
theorem vP.fnOk{h:cG}(S:vP h){a:Nat}{f:Fn}(e:rA a=some f):Yd h a f:=by
 have hm:=UL e;have hp:=eX.mp aco a hm;rw[e]at hp;have hp:UJ f=true:=hp;unfold UJ at hp;simp only[bh,kE,beq_iff_eq,decide_eq_true_eq,eX]at hp;obtain⟨⟨⟨⟨⟨⟨⟨c1,c2⟩,c3⟩,c4⟩,c5⟩,c6⟩,c7⟩,c8⟩:=hp;have hs:Oj h a=Ol a:=List.map_inj_left.mp S.fns a hm;unfold Ol at hs;rw[e]at hs;unfold Oj at hs;split at hs
 ·rename_i cc dd fd sl ho
  simp only[qF,Option.some.injEq,Prod.mk.injEq]at hs;obtain⟨s1,s2,s3,s4⟩:=hs;simp only[bh,beq_iff_eq,iW]at s4;obtain⟨⟨⟨⟨g1,g2⟩,g3⟩,g4⟩,g5⟩:=s4;have hD:∃dl,(∀M:Model,Looks M h (seqItems? fd.defaults) dl)/\(f.params.defaults.length=1->dl=some #[.none]):=by
   unfold ach at g5;rw[s1]at g5;split at g5
   ·rename_i hd
    refine⟨none,λ M=>?_,λ q=>?_⟩
    ·rw[hd];exact Looks.now
    ·rw[q]at g5;contradiction
   ·rename_i t hd
    split at g5
    ·rename_i xs n sl2 ho2
     refine⟨some xs,λ M=>?_,λ q=>?_⟩
     ·rw[hd];exact λ A Q E s k q=>jf (k _ _ ho2) rfl q
     ·rw[q]at g5;have:(xs==#[.none])=true:=by simpa using g5
      rw[eq_of_beq this]
    ·contradiction
   ·contradiction
  obtain⟨dl,hdl,hd1⟩:=hD;refine⟨⟨_,fd,ho,rfl,s1,s2,s3,g1,g3,g2,?_,dl,hdl,hd1⟩,c1,c2,c3,c4,λ x hx=>?_,c7,c8⟩
  ·unfold acg at g4;split at g4
   ·rename_i c hc
    split at g4
    ·rename_i oc hoc
     split at g4
     ·rename_i q t hq
      exact⟨c,_,_,t,hc,hoc,rfl,by rw[<-eq_of_beq g4];exact hq⟩
     ·contradiction
    ·contradiction
   ·contradiction
  ·rcases hx with hx|⟨r,hr,rfl⟩
   ·exact c5 x hx
   ·rw[hr]at c6;exact eq_of_beq c6
 ·contradiction
set_option tactic.hygienic true in
theorem vP.facts2{h:cG}(S:vP h){prog:cI}{w:eZ}:T6 prog w h:=by
 have G:=S.globs;have X:=Zc h uH;have ex:∀x:Gi,exmOne (zT h uH) (vC x) (vC x)=some true:=λ x=>by
  have e:=S.exc;unfold acj at e;rw[bh]at e;induction x
  ·exact eq_of_beq e.2
  ·exact eq_of_beq e.1
 refine⟨λ x=>⟨_,_,.of_isNs S.mg,.of_isNs S.mb,?_⟩,λ x=>exm_ty X (ex x),λ x=>(exm_cls X (ex x)).1,λ x=>(exm_cls X (ex x)).2,?_,⟨_,X,S.ko⟩,λ a f e=>S.fnOk e,⟨_,.of_isNs S.st,S.lim⟩⟩
 ·induction x
  ·exact .inr G.stop
  ·exact .inl G.cyc
 ·refine uq λ Gz toG=>?_
  have e:=S.cyc;unfold aci at e;split at e
  ·rename_i dd cd sl ho
   simp only[bh,kE,beq_iff_eq]at e;obtain⟨⟨⟨⟨⟨e1,e2⟩,e3⟩,e4⟩,e5⟩,e6⟩:=e;obtain⟨ll⟩:=sl;obtain⟨k0,k1,k2,k3,k4,k5,rfl⟩:∃k0 k1 k2 k3 k4 k5,ll=[k0,k1,k2,k3,k4,k5]:=by
    clear ho e4;rcases ll with _|⟨a,_|⟨b,_|⟨c,_|⟨d,_|⟨e,_|⟨f,_|⟨g,r⟩⟩⟩⟩⟩⟩⟩<;>simp at e3
    exact⟨a,b,c,d,e,f,rfl⟩
   have e4:some k4=some (some (.builtin "ValueError.__new__")):=e4;cases e4;obtain⟨nm,bs,mro,ns,qn,hd,sn,sub,ab,col,del⟩:=cd;dsimp only at e1 e2 e5 e6;subst e1 e2;exact toG ⟨nm,qn,ns,bs,hd,sn,sub,ab,col,dd,k0,k1,k2,k3,k5,_,ho,.of_isNs e5,e6⟩
  ·contradiction
set_option tactic.hygienic true in
theorem Fp{h:cG}{a:aR}{vs:List ao}(e:Oi h a=some vs):∃cs n,h.get? a=some (uG cs n)/\cs.toList=vs:=by
 unfold Oi at e;split at e
 ·rename_i t cs n sl ho
  split at e
  ·rename_i hc
   simp only[bh,beq_iff_eq]at hc;cases e;obtain⟨rfl,hc⟩:=hc;obtain rfl:sl=#[]:=Array.eq_empty_of_size_eq_zero hc;exact⟨cs,n,ho,rfl⟩
  ·contradiction
 ·contradiction
set_option tactic.hygienic true in
theorem UW{ρ:List aR}:∀{vs:List ao}{as:List aR},Dk vs=some as->∀{js:List Nat},cX (λ j a=>ρ[j]?=some a) js as->cX (VR ρ) (js.map V.ref) vs:=by
 intro vs;induction vs with
 |nil=>intro as e js h;cases e;cases h;exact .nil
 |cons v r ih=>
  intro as e js h;induction v<;>first|exact ns e|exact qW e|(induction e;done)|skip
  rename_i a
  obtain⟨bs,hb,rfl⟩:=bx.mp (show(Dk r).map (a::·)=some as from e);cases h with
  |cons h1 h2=>exact .cons ⟨_,h1,rfl⟩ (ih hb h2)
set_option tactic.hygienic true in
theorem Ry{ρ:List aR}:∀{vs:List ao}{ss:List Str},yC vs=some ss->cX (VR ρ) (ss.map V.str) vs:=by
 intro vs;induction vs with
 |nil=>intro as e;cases e;exact .nil
 |cons v r ih=>
  intro as e;induction v<;>first|exact ns e|exact qW e|(induction e;done)|skip
  rename_i x t
  obtain⟨bs,hb,rfl⟩:=bx.mp (show(yC r).map (x::·)=some as from e);exact .cons ⟨t,rfl⟩ (ih hb)
theorem Rz{ρ:List aR}:∀{vs:List ao}{ns:List Int},IntsAre vs ns->cX (VR ρ) (ns.map V.int) vs
 |_,_,.nil=>.nil
 |_,_,.cons k t h=>.cons ⟨t,rfl⟩ (Rz h)
theorem vP.list0{h:cG}(S:vP h):∃cs m,h.get? 290=some (uG cs m)/\Dk cs.toList=some [284,285,286,287,288,289]:=by
 have e:=S.lists;unfold Gr at e;simp only[bh]at e;obtain⟨us,hu,hr⟩:=bk.mp (eq_of_beq e.1);obtain⟨cs,m,h1,rfl⟩:=Fp hu;exact⟨cs,m,h1,hr⟩
theorem vP.list1{h:cG}(S:vP h){k:Nat}{p:List Str}(hk:files[k]?=some p):∃cs m,h.get? (284+k)=some (uG cs m)/\yC cs.toList=some p:=by
 have e:=S.lists;unfold Gr at e;rw[bh]at e;have:=eX.mp e.2 (p,k) (by rw[List.mem_zipIdx_iff_getElem?];exact hk);obtain⟨us,hu,hr⟩:=bk.mp (eq_of_beq this);obtain⟨cs,m,h1,rfl⟩:=Fp hu;exact⟨cs,m,h1,hr⟩
theorem vP.objs{h h':cG}(S:vP h)(kb:Sub h h'){prog:cI}{w:eZ}{ns:List Int}{sa:aR}{vs:Array ao}{n:Nat}(hs:h'.get? sa=some (uG vs n))(hi:IntsAre vs.toList ns):
  ∀(i:Nat) o x,(FZ ns)[i]?=some o->(tW sa)[i]?=some x->∃co,h'.get? x=some co/\OR prog w (tW sa) o co:=by
 obtain⟨cs,m,h1,hr⟩:=S.list0;have fl:∀{k:Nat} {p},files[k]?=some p->∃co,h'.get? (284+k)=some co/\OR prog w (tW sa) (.list (p.map .str)) co:=λ hk=>let ⟨cs,m,q1,q2⟩:=S.list1 hk;⟨_,kb _ _ q1,cs,m,rfl,Ry q2⟩
 intro i o x ho hx;rcases i with _|_|_|_|_|_|_|_|i
 ·cases ho;cases hx;exact⟨_,kb _ _ h1,cs,m,rfl,UW hr (js:=[1,2,3,4,5,6]) (.cons rfl (.cons rfl (.cons rfl (.cons rfl (.cons rfl (.cons rfl .nil))))))⟩
 ·cases ho;cases hx;exact fl (k:=0) rfl
 ·cases ho;cases hx;exact fl (k:=1) rfl
 ·cases ho;cases hx;exact fl (k:=2) rfl
 ·cases ho;cases hx;exact fl (k:=3) rfl
 ·cases ho;cases hx;exact fl (k:=4) rfl
 ·cases ho;cases hx;exact fl (k:=5) rfl
 ·cases ho;cases hx;exact⟨_,hs,vs,n,rfl,Rz hi⟩
 ·contradiction
theorem acp{vs:List ao}{ns:List Int}{x:Str}{r:List Str}(h:yC vs=some (x::r))(hi:IntsAre vs ns):False:=by
 induction hi with
 |nil=>cases h
 |cons k t _=>contradiction
theorem afM{vs:List ao}{ns:List Int}{x:aR}{r:List aR}(h:Dk vs=some (x::r))(hi:IntsAre vs ns):False:=by
 induction hi with
 |nil=>cases h
 |cons k t _=>contradiction
theorem vP.apart{h h':cG}(S:vP h)(kb:Sub h h'){ns:List Int}{sa:aR}{vs:Array ao}{n:Nat}(hs:h'.get? sa=some (uG vs n))(hi:IntsAre vs.toList ns):(tW sa).Nodup/\∀x∈tW sa,(x==gk)=false:=by
 have n0:290≠sa:=λ e=>by
  obtain⟨cs,m,h1,hr⟩:=S.list0;have:=kb _ _ h1;rw[e,hs]at this;clear h1;cases this;exact afM hr hi
 have n1:∀(k:Nat) x r,files[k]?=some (x::r)->284+k≠sa:=λ k x r hk e=>by
  obtain⟨cs,m,h1,hr⟩:=S.list1 hk;have:=kb _ _ h1;rw[e,hs]at this;clear h1;cases this;exact acp hr hi
 have a0:=n1 0 _ _ rfl;have a1:=n1 1 _ _ rfl;have a2:=n1 2 _ _ rfl;have a3:=n1 3 _ _ rfl;have a4:=n1 4 _ _ rfl;have a5:=n1 5 _ _ rfl;refine⟨?_,λ x hx=>?_⟩
 ·show([290,284,285,286,287,288,289]++[sa]:List Nat).Nodup;rw[cN];refine⟨by decide,by simp,λ x hx y hy=>?_⟩;rw[aJ.mp hy];simp only[bU,pQ,or_false]at hx;rcases hx with rfl|rfl|rfl|rfl|rfl|rfl|rfl<;>assumption
 ·have hx:x∈([290,284,285,286,287,288,289]++[sa]:List Nat):=hx;rcases aM.mp hx with hx|hx
  ·have:∀x∈([290,284,285,286,287,288,289]:List Nat),(x==gk)=false:=by decide
   exact this x hx
  ·rw[aJ.mp hx,beq_eq_false_iff_ne];intro e;have:=S.sys;induction q:h.get? gk with
   |none=>rw[q]at this;contradiction
   |some o=>
    rw[q]at this;have hk:=kb _ _ q;rw[<-e,hs]at hk;clear q;cases hk;contradiction
theorem Ib:∀f,rA 330=some f->f.params.vararg=none/\f.params.args.length=1:=λ f e=>by
 have h:(rA 330).all (λ f=>f.params.vararg.isNone&&f.params.args.length==1)=true:=by decide+kernel
 rw[e]at h;simpa using h
theorem Zd{P:Params}{h:cG}:∀{ns:List Int}{vs:List ao},WellAll P h vs (ofPys (ns.map PyData.int))->IntsAre vs ns:=by
 intro ns;induction ns with
 |nil=>intro vs w;cases w;exact .nil
 |cons n r ih=>intro vs w;cases w with
  |cons w1 w2=>cases w1;exact .cons _ _ (ih w2)
theorem acq(pure_:∀ns:List Int,ns.length<=63->∃f τ,rA 330=some f/\wM (aG 8) f [.ref 7] {loc:=[],sto:=FZ ns}=.ok (.bool true) τ){w:eZ}{s:aD}{hb:cG}(S:vP hb)(kb:Sub hb s.heap){ns:List Int}(hl:ns.length<=63){sa:aR}
  (hw:Well w.params s.heap (.ref sa) (ofPy (.list (ns.map .int)))):
  bI (model PySem.Challenge.pw_il0148_01 w) callerA (call (.ref 330) [.ref sa]) (λ v s'=>v=.bool true/\∃h' tk,s'={s with heap:=h',toks:=tk}/\∀b o,s.heap.get? b=some o->h'.get? b=some o) (λ _ _=>False) s:=by
 obtain⟨f,τ,hf,hM⟩:=pure_ ns hl;obtain⟨vs,hs,hi⟩:∃vs:List ao,s.heap.get? sa=some (uG vs.toArray 0)/\IntsAre vs ns:=by
  cases hw with
  |list h1 h2=>exact⟨_,h1,Zd h2⟩
 obtain⟨hnd,hsys⟩:=S.apart kb hs (by simpa using hi);refine acf (hb:=hb) (by decide) S.facts S.facts2 kb hf (Ib f hf).1 (by rw[(Ib f hf).2];decide) (S.objs kb hs (by simpa using hi)) hnd hsys ?_ hM;have:=S.sys;induction q:hb.get? gk with
 |none=>rw[q]at this;cases this
 |some o=>rw[kb _ _ q];rfl
set_option tactic.hygienic true in
set_option maxHeartbeats 0 in
theorem join(pure_:∀ns:List Int,ns.length<=63->∃f τ,rA 330=some f/\wM (aG 8) f [.ref 7] {loc:=[],sto:=FZ ns}=.ok (.bool true) τ):PySem.Challenge.rw_il0148_01.Holds:=by
 refine holds_law said_ok λ said=>?_
 refine holds_open (r:=PySem.Challenge.rw_il0148_01.row) (q:=qv) (loose:=lo) (Xt:=λ s=>xlAt qv [] s&&recOk [] s) (XP:=XL qv []) (Yf:=λ s=>ah4 s.heap) (Ya:=λ _=>ah5) (YP:=λ _ h=>∃hb,vP hb/\Sub hb h) (N:=2300)
  left (λ w s e=>⟨s.heap,afL e,λ _ _ e=>e⟩) (λ w h h' y k=>let ⟨hb,a,b⟩:=y;⟨hb,a,λ x o e=>k x o (b x o e)⟩) (λ s e=>xl_of s (eE.mp e).1) XL.keeps (by rfl) (by rfl) (by rfl)
  (λ s e=>recFacts_of (eE.mp e).2) rfl said (by decide+kernel) ⟨rfl,rfl,rfl,rfl,rfl,by decide+kernel⟩ ?hw ?hc
 case hw=>w_witness2
 case hc=>
  intro w sB sC mg mb G Yy fa o pm cd doc dV kV ho hd hcd hD hmg hg args vals as hpre hlay hrd hwl hlo;refine uq λ Gz toG=>?_
  obtain⟨hb,S,kb⟩:=Yy;have e330:fa=330:=by
   have g1:mg=sC.heap.nsMap cC:=Heap.Ns.eq_nsMap G.T.g;have g2:hb.nsMap cC=sC.heap.nsMap cC:=Heap.Ns.eq_nsMap ((Heap.Ns.of_isNs S.mg).keeps kb);have g3:=S.globs.law;rw[g2,<-g1]at g3;have g4:=g3.symm.trans hmg;cases g4;rfl
  clear ho hd hcd hD hmg;wrow_args hpre hlay hrd hwl hlo
  all_goals(
   rename_i hw _ _ _ hl _
   have cl:=acq pure_ S kb (by clear toG;omega) hw;rw[<-e330]at cl;refine toG (cO cl (λ v s' z=>?_) λ e s' z=>z.elim);obtain⟨rfl,h',tk,rfl,hk⟩:=z;exact⟨.inl ⟨_,_,_,rfl,λ _=>rfl,.bool true,postC_of (r:=PySem.Challenge.rw_il0148_01.row.toRowW) (by first|rfl|decide+kernel) (w_eq_bool (w_res rfl) w_lit) rfl,λ _=>⟨oR,λ a ha=>(nomatch ha)⟩⟩,.of_keep hk,rfl,.of_eq hg⟩)
end Mine
namespace Mine
open PySem
noncomputable def zU(a:Nat):List Stmt:=((rA a).map (·.body)).getD []
noncomputable def ah6(a:Nat):Scope:=((rA a).map (·.scope)).getD default
noncomputable def Dl(a:Nat):En:={scope:=ah6 a,cells:=[]}
noncomputable def enC(a k:Nat):En:={scope:=ah6 a,cells:=lZ (fC (ah6 a)) k}
set_option tactic.hygienic true in
noncomputable def sV(loc:List (Str×Option V))(r:aC Fl):aC V:=match r with
 |.ok (.ret v) τ=>.ok v {loc:=loc,sto:=τ.sto}
 |.ok .next τ=>.ok .none {loc:=loc,sto:=τ.sto}
 |.ok _ _=>.bad
 |.exc e τ=>.exc e {loc:=loc,sto:=τ.sto}
 |.bad=>.bad
set_option tactic.hygienic true in
noncomputable def aA(r:aC Fl)(k:St->aC Fl):aC Fl:=r.bind λ fl Y=>match fl with
 |.next=>k Y
 |f=>.ok f Y
theorem aQ(Y:St)(k:St->aC Fl):aA (.ok .next Y) k=k Y:=rfl
theorem th{r:aC Fl}{k:St->aC Fl}{Y:St}{x:aC Fl}(h:r=.ok .next Y)(h':k Y=x):aA r k=x:=by rw[h];exact h'
theorem bd{α β:Type}{r:aC α}{k:α->St->aC β}{a:α}{Y:St}{x:aC β}(h:r=.ok a Y)(h':k a Y=x):r.bind k=x:=by rw[h];exact h'
theorem iT{α:Type}{c:Bool}{x y r:aC α}(h:c=true)(h':x=r):(if c=true then x else y)=r:=by rw[if_pos h];exact h'
theorem iF{α:Type}{c:Bool}{x y r:aC α}(h:c=false)(h':y=r):(if c=true then x else y)=r:=by rw[h];exact h'
theorem bo{β:Type}{o:Option Bool}{τ:St}{k:Bool->St->aC β}{b:Bool}{x:aC β}(h:o=some b)(h':k b τ=x):(bA o τ).bind k=x:=by rw[h];exact h'
theorem eV(Y:St)(v:V)(k:St->aC Fl):aA (.ok (.ret v) Y) k=.ok (.ret v) Y:=rfl
theorem KN(Y:St)(k:St->aC Fl):aA (.ok .brk Y) k=.ok .brk Y:=rfl
theorem U0(Y:St)(k:St->aC Fl):aA (.ok .cont Y) k=.ok .cont Y:=rfl
theorem Dm(e:Gi)(Y:St)(k:St->aC Fl):aA (.exc e Y) k=.exc e Y:=rfl
theorem jg(l)(v:V)(Y:St):sV l (.ok (.ret v) Y)=.ok v {loc:=l,sto:=Y.sto}:=rfl
theorem Ie(l)(Y:St):sV l (.ok .next Y)=.ok .none {loc:=l,sto:=Y.sto}:=rfl
theorem fZ{d a:Nat}{args:List V}{l L:List (Str×Option V)}{S S₁:List O}(h:aG (d+1) a args ⟨l,S⟩=sV l (bY (gR (aG d) 60) (zU a) (Dl a) ⟨L,S₁++[]⟩)):
  aG (d+1) a args ⟨l,S⟩=sV l (bY (gR (aG d) 60) (zU a) (Dl a) ⟨L,S₁⟩):=by rw[h,aW]
noncomputable def aH(x:Str)(Y:St):aC V:=onS (cF Y.loc x) λ v=>.ok v Y
noncomputable def aX(x:Str)(v:V)(Y:St):St:={Y with loc:=dH Y.loc x v}
noncomputable def uI(c:Nat)(Y:St):aC V:=onS (Y.get c O.cell?) λ v=>.ok v Y
noncomputable def cZ(cl:Nat->List V->St->aC V)(live:Bool)(name:Str)(args:St->aC (List V))(ov:V)(Y:St):aC V:=match pR ov name Y with
 |some c=>(args Y).bind λ vs Y=>match c with
  |.user f=>if live then cl f (ov::vs) Y else .bad
  |.bi m=>gH m ov vs Y
 |none=>.bad
noncomputable def Ig(cl:Nat->List V->St->aC V)(live:Bool)(f:V)(args:List V)(Y:St):aC V:=match f with
 |.none|.bool _|.int _|.str _=>.bad
 |.ref k=>if live&&args.isEmpty then JZ k Y else .bad
 |.fn a=>if live then cl a args Y else .bad
 |.bi b=>if live then gq cl b args Y else .bad
noncomputable def d9(o l h:V)(Y:St):aC V:=onS (rz l) λ l=>onS (rz h) λ h=>MF o l h Y
noncomputable def acr(xs:List Str)(Y:St):O->aC Unit
 |.list _=>.bad
 |.tup vs=>onS (GF vs) λ v=>onS (GF xs) λ x=>.ok () (aX x.2.2 v.2.2 (aX x.2.1 v.2.1 (aX x.1 v.1 Y)))
 |.dict ..|.set _=>.bad
 |.bset bs=>onS (rm bs) λ b=>onS (rm xs) λ x=>.ok () (aX x (.bool b) Y)
 |.inst _|.node ..|.cell _|.liter ..|.eit ..|.bnext _|.rng _|.enum ..|.mapo ..|.view _|.any=>.bad
noncomputable def Gs(xs:List Str)(v:V)(Y:St):aC Unit:=onS v.ref? λ i=>onS (Y.sto[i]?) (acr xs Y)
noncomputable def lV(body:V->St->aC Fl)(o:St->aC Fl)(v:V)(Y:St):aC Fl:=match fD v Y with
 |some xs=>jq (qJ (cW v Y) body xs Y) o
 |none=>.bad
noncomputable def Om(body:Nat->V->St->aC Fl)(o:St->aC Fl)(v:V)(Y:St):aC Fl:=onS v.ref? λ i=>onS (MT i Y) λ p=>grd (small p.2.2.length&&decide (k0<=i)&&decide (k0<=p.1)&&!false) (jq (lY i p.1 p.2.1 p.2.2 body 0 p.2.2 Y) o)
set_option tactic.hygienic true in
noncomputable def Bb(b o:St->aC Fl)(h:Gi->St->aC Fl)(Y:St):aC Fl:=match b Y with
 |.ok .next Y=>o Y
 |.ok f Y=>.ok f Y
 |.exc e Y=>h e Y
 |.bad=>.bad
theorem jQ(S J:List O)(k:Nat):(S++J)[S.length+k]?=J[k]?:=by rw[cD (d8 ..),nP]
theorem vQ(S J:List O)(k:Nat)(o:O):(S++J).set (S.length+k) o=S++J.set k o:=by rw[List.set_append_right _ _ (d8 ..),nP]
theorem rI{n:Nat}{S J:List O}(h:n<=S.length):n<=(S++J).length:=by rw[aq];exact bT h (d8 ..)
theorem at3(S:List O)(a b c:O)(k:Nat):(S++[a]++[b]++[c])[S.length+k]?=[a,b,c][k]?:=by rw[aj,aj];exact jQ S _ k
theorem acs(S:List O)(o o':O)(J:List O):(S++[o]++J).set S.length o'=S++[o']++J:=by rw[aj,aj];exact vQ S _ 0 o'
theorem tX(S:List O)(o:O)(J:List O):(S++[o]++J)[S.length]?=some o:=by rw[aj];exact jQ S _ 0
theorem qd{α:Type}{xs:List α}{x:α}:x∈xs++[x]:=iu _ (.head _)
theorem kj{S T:List O}(h:S <+: T)(J:List O):S <+: T++J:=h.trans (bC ..)
theorem nZ{S:List O}{o:O}:(S++[o])[S.length]?=some o:=jQ S _ 0
noncomputable abbrev SB:=(Nat->List V->St->aC V)->St->aC Fl
noncomputable abbrev iB:=(Nat->List V->St->aC V)->Nat->St->aC Fl
noncomputable abbrev SC:=(Nat->List V->St->aC V)->St->aC Bool
noncomputable abbrev SCk:=(Nat->List V->St->aC V)->Nat->St->aC Bool
noncomputable abbrev SV:=(Nat->List V->St->aC V)->St->aC V
noncomputable abbrev SVk:=(Nat->List V->St->aC V)->Nat->St->aC V
section
variable (o0 o1 o2 o3 o4 o5 o6 o7 o8 o9 o10 o11 o12 o13 o14 o15 o16 o17 o18 o19 o20 o21 o22 o23 o24 o25 o26 o27 o28 o29 o30 o31 o32 o33 o34 o35:Option V) (S:List O) (v:V)
noncomputable def xR:List (Str×Option V):=[("path",o0),("kind",o1),("hook",o2),("given",o3)]
theorem ah9:aH "path" ⟨xR (some v) o1 o2 o3,S⟩=.ok v ⟨xR (some v) o1 o2 o3,S⟩:=rfl
theorem alV:aX "path" v ⟨xR o0 o1 o2 o3,S⟩=⟨xR (some v) o1 o2 o3,S⟩:=rfl
theorem aia:aH "kind" ⟨xR o0 (some v) o2 o3,S⟩=.ok v ⟨xR o0 (some v) o2 o3,S⟩:=rfl
theorem aib:aX "kind" v ⟨xR o0 o1 o2 o3,S⟩=⟨xR o0 (some v) o2 o3,S⟩:=rfl
theorem alW:aH "hook" ⟨xR o0 o1 (some v) o3,S⟩=.ok v ⟨xR o0 o1 (some v) o3,S⟩:=rfl
theorem alX:aX "hook" v ⟨xR o0 o1 o2 o3,S⟩=⟨xR o0 o1 (some v) o3,S⟩:=rfl
theorem alY:aH "given" ⟨xR o0 o1 o2 (some v),S⟩=.ok v ⟨xR o0 o1 o2 (some v),S⟩:=rfl
theorem alZ:aX "given" v ⟨xR o0 o1 o2 o3,S⟩=⟨xR o0 o1 o2 (some v),S⟩:=rfl
noncomputable def acu:List (Str×Option V):=[("path",o0)]
theorem al0:aH "path" ⟨acu (some v),S⟩=.ok v ⟨acu (some v),S⟩:=rfl
theorem al1:aX "path" v ⟨acu o0,S⟩=⟨acu (some v),S⟩:=rfl
noncomputable def pB:List (Str×Option V):=[("a",o0),("p",o1),("sep",o2),("path",o3),("b",o4)]
theorem aic:aH "a" ⟨pB (some v) o1 o2 o3 o4,S⟩=.ok v ⟨pB (some v) o1 o2 o3 o4,S⟩:=rfl
theorem aid:aX "a" v ⟨pB o0 o1 o2 o3 o4,S⟩=⟨pB (some v) o1 o2 o3 o4,S⟩:=rfl
theorem aie:aH "p" ⟨pB o0 (some v) o2 o3 o4,S⟩=.ok v ⟨pB o0 (some v) o2 o3 o4,S⟩:=rfl
theorem al2:aX "p" v ⟨pB o0 o1 o2 o3 o4,S⟩=⟨pB o0 (some v) o2 o3 o4,S⟩:=rfl
theorem Oo:aH "sep" ⟨pB o0 o1 (some v) o3 o4,S⟩=.ok v ⟨pB o0 o1 (some v) o3 o4,S⟩:=rfl
theorem aif:aX "sep" v ⟨pB o0 o1 o2 o3 o4,S⟩=⟨pB o0 o1 (some v) o3 o4,S⟩:=rfl
theorem Oq:aH "path" ⟨pB o0 o1 o2 (some v) o4,S⟩=.ok v ⟨pB o0 o1 o2 (some v) o4,S⟩:=rfl
theorem Ih:aX "path" v ⟨pB o0 o1 o2 o3 o4,S⟩=⟨pB o0 o1 o2 (some v) o4,S⟩:=rfl
theorem Ot:aH "b" ⟨pB o0 o1 o2 o3 (some v),S⟩=.ok v ⟨pB o0 o1 o2 o3 (some v),S⟩:=rfl
theorem Ii:aX "b" v ⟨pB o0 o1 o2 o3 o4,S⟩=⟨pB o0 o1 o2 o3 (some v),S⟩:=rfl
noncomputable def Dn:List (Str×Option V):=[("p",o0),("sep",o1),("empty",o2)]
theorem U3:aH "p" ⟨Dn (some v) o1 o2,S⟩=.ok v ⟨Dn (some v) o1 o2,S⟩:=rfl
theorem aii:aX "p" v ⟨Dn o0 o1 o2,S⟩=⟨Dn (some v) o1 o2,S⟩:=rfl
theorem U4:aH "sep" ⟨Dn o0 (some v) o2,S⟩=.ok v ⟨Dn o0 (some v) o2,S⟩:=rfl
theorem aij:aX "sep" v ⟨Dn o0 o1 o2,S⟩=⟨Dn o0 (some v) o2,S⟩:=rfl
theorem U5:aH "empty" ⟨Dn o0 o1 (some v),S⟩=.ok v ⟨Dn o0 o1 (some v),S⟩:=rfl
theorem aik:aX "empty" v ⟨Dn o0 o1 o2,S⟩=⟨Dn o0 o1 (some v),S⟩:=rfl
noncomputable def xT:List (Str×Option V):=[("p",o0),("sep",o1),("i",o2),("head",o3)]
theorem ail:aH "p" ⟨xT (some v) o1 o2 o3,S⟩=.ok v ⟨xT (some v) o1 o2 o3,S⟩:=rfl
theorem aim:aX "p" v ⟨xT o0 o1 o2 o3,S⟩=⟨xT (some v) o1 o2 o3,S⟩:=rfl
theorem U6:aH "sep" ⟨xT o0 (some v) o2 o3,S⟩=.ok v ⟨xT o0 (some v) o2 o3,S⟩:=rfl
theorem ain:aX "sep" v ⟨xT o0 o1 o2 o3,S⟩=⟨xT o0 (some v) o2 o3,S⟩:=rfl
theorem aio:aH "i" ⟨xT o0 o1 (some v) o3,S⟩=.ok v ⟨xT o0 o1 (some v) o3,S⟩:=rfl
theorem aip:aX "i" v ⟨xT o0 o1 o2 o3,S⟩=⟨xT o0 o1 (some v) o3,S⟩:=rfl
theorem U7:aH "head" ⟨xT o0 o1 o2 (some v),S⟩=.ok v ⟨xT o0 o1 o2 (some v),S⟩:=rfl
theorem acv:aX "head" v ⟨xT o0 o1 o2 o3,S⟩=⟨xT o0 o1 o2 (some v),S⟩:=rfl
noncomputable def fW:List (Str×Option V):=[("path",o0),("sep",o1),("dot",o2),("dotdot",o3),("_",o4),("initial_slashes",o5),("comps",o6),("new_comps",o7),("comp",o8)]
theorem Ou:aH "path" ⟨fW (some v) o1 o2 o3 o4 o5 o6 o7 o8,S⟩=.ok v ⟨fW (some v) o1 o2 o3 o4 o5 o6 o7 o8,S⟩:=rfl
theorem acw:aX "path" v ⟨fW o0 o1 o2 o3 o4 o5 o6 o7 o8,S⟩=⟨fW (some v) o1 o2 o3 o4 o5 o6 o7 o8,S⟩:=rfl
theorem acy:aH "sep" ⟨fW o0 (some v) o2 o3 o4 o5 o6 o7 o8,S⟩=.ok v ⟨fW o0 (some v) o2 o3 o4 o5 o6 o7 o8,S⟩:=rfl
theorem aiq:aX "sep" v ⟨fW o0 o1 o2 o3 o4 o5 o6 o7 o8,S⟩=⟨fW o0 (some v) o2 o3 o4 o5 o6 o7 o8,S⟩:=rfl
theorem acz:aH "dot" ⟨fW o0 o1 (some v) o3 o4 o5 o6 o7 o8,S⟩=.ok v ⟨fW o0 o1 (some v) o3 o4 o5 o6 o7 o8,S⟩:=rfl
theorem air:aX "dot" v ⟨fW o0 o1 o2 o3 o4 o5 o6 o7 o8,S⟩=⟨fW o0 o1 (some v) o3 o4 o5 o6 o7 o8,S⟩:=rfl
theorem al3:aH "dotdot" ⟨fW o0 o1 o2 (some v) o4 o5 o6 o7 o8,S⟩=.ok v ⟨fW o0 o1 o2 (some v) o4 o5 o6 o7 o8,S⟩:=rfl
theorem ais:aX "dotdot" v ⟨fW o0 o1 o2 o3 o4 o5 o6 o7 o8,S⟩=⟨fW o0 o1 o2 (some v) o4 o5 o6 o7 o8,S⟩:=rfl
theorem al4:aH "_" ⟨fW o0 o1 o2 o3 (some v) o5 o6 o7 o8,S⟩=.ok v ⟨fW o0 o1 o2 o3 (some v) o5 o6 o7 o8,S⟩:=rfl
theorem ait:aX "_" v ⟨fW o0 o1 o2 o3 o4 o5 o6 o7 o8,S⟩=⟨fW o0 o1 o2 o3 (some v) o5 o6 o7 o8,S⟩:=rfl
theorem aiu:aH "initial_slashes" ⟨fW o0 o1 o2 o3 o4 (some v) o6 o7 o8,S⟩=.ok v ⟨fW o0 o1 o2 o3 o4 (some v) o6 o7 o8,S⟩:=rfl
theorem aiv:aX "initial_slashes" v ⟨fW o0 o1 o2 o3 o4 o5 o6 o7 o8,S⟩=⟨fW o0 o1 o2 o3 o4 (some v) o6 o7 o8,S⟩:=rfl
theorem acA:aH "comps" ⟨fW o0 o1 o2 o3 o4 o5 (some v) o7 o8,S⟩=.ok v ⟨fW o0 o1 o2 o3 o4 o5 (some v) o7 o8,S⟩:=rfl
theorem acB:aX "comps" v ⟨fW o0 o1 o2 o3 o4 o5 o6 o7 o8,S⟩=⟨fW o0 o1 o2 o3 o4 o5 (some v) o7 o8,S⟩:=rfl
theorem aiw:aH "new_comps" ⟨fW o0 o1 o2 o3 o4 o5 o6 (some v) o8,S⟩=.ok v ⟨fW o0 o1 o2 o3 o4 o5 o6 (some v) o8,S⟩:=rfl
theorem aix:aX "new_comps" v ⟨fW o0 o1 o2 o3 o4 o5 o6 o7 o8,S⟩=⟨fW o0 o1 o2 o3 o4 o5 o6 (some v) o8,S⟩:=rfl
theorem al5:aH "comp" ⟨fW o0 o1 o2 o3 o4 o5 o6 o7 (some v),S⟩=.ok v ⟨fW o0 o1 o2 o3 o4 o5 o6 o7 (some v),S⟩:=rfl
theorem aiy:aX "comp" v ⟨fW o0 o1 o2 o3 o4 o5 o6 o7 o8,S⟩=⟨fW o0 o1 o2 o3 o4 o5 o6 o7 (some v),S⟩:=rfl
noncomputable def Ze:List (Str×Option V):=[("path",o0)]
theorem aiz:aH "path" ⟨Ze (some v),S⟩=.ok v ⟨Ze (some v),S⟩:=rfl
theorem aiA:aX "path" v ⟨Ze o0,S⟩=⟨Ze (some v),S⟩:=rfl
noncomputable def fL:List (Str×Option V):=[("path",o0),("start",o1),("curdir",o2),("sep",o3),("pardir",o4),("start_tail",o5),("path_tail",o6),("start_list",o7),("path_list",o8),("i",o9),("rel_list",o10)]
theorem aiB:aH "path" ⟨fL (some v) o1 o2 o3 o4 o5 o6 o7 o8 o9 o10,S⟩=.ok v ⟨fL (some v) o1 o2 o3 o4 o5 o6 o7 o8 o9 o10,S⟩:=rfl
theorem aiC:aX "path" v ⟨fL o0 o1 o2 o3 o4 o5 o6 o7 o8 o9 o10,S⟩=⟨fL (some v) o1 o2 o3 o4 o5 o6 o7 o8 o9 o10,S⟩:=rfl
theorem aiD:aH "start" ⟨fL o0 (some v) o2 o3 o4 o5 o6 o7 o8 o9 o10,S⟩=.ok v ⟨fL o0 (some v) o2 o3 o4 o5 o6 o7 o8 o9 o10,S⟩:=rfl
theorem aiE:aX "start" v ⟨fL o0 o1 o2 o3 o4 o5 o6 o7 o8 o9 o10,S⟩=⟨fL o0 (some v) o2 o3 o4 o5 o6 o7 o8 o9 o10,S⟩:=rfl
theorem al6:aH "curdir" ⟨fL o0 o1 (some v) o3 o4 o5 o6 o7 o8 o9 o10,S⟩=.ok v ⟨fL o0 o1 (some v) o3 o4 o5 o6 o7 o8 o9 o10,S⟩:=rfl
theorem aiF:aX "curdir" v ⟨fL o0 o1 o2 o3 o4 o5 o6 o7 o8 o9 o10,S⟩=⟨fL o0 o1 (some v) o3 o4 o5 o6 o7 o8 o9 o10,S⟩:=rfl
theorem al7:aH "sep" ⟨fL o0 o1 o2 (some v) o4 o5 o6 o7 o8 o9 o10,S⟩=.ok v ⟨fL o0 o1 o2 (some v) o4 o5 o6 o7 o8 o9 o10,S⟩:=rfl
theorem aiG:aX "sep" v ⟨fL o0 o1 o2 o3 o4 o5 o6 o7 o8 o9 o10,S⟩=⟨fL o0 o1 o2 (some v) o4 o5 o6 o7 o8 o9 o10,S⟩:=rfl
theorem aiH:aH "pardir" ⟨fL o0 o1 o2 o3 (some v) o5 o6 o7 o8 o9 o10,S⟩=.ok v ⟨fL o0 o1 o2 o3 (some v) o5 o6 o7 o8 o9 o10,S⟩:=rfl
theorem aiI:aX "pardir" v ⟨fL o0 o1 o2 o3 o4 o5 o6 o7 o8 o9 o10,S⟩=⟨fL o0 o1 o2 o3 (some v) o5 o6 o7 o8 o9 o10,S⟩:=rfl
theorem al8:aH "start_tail" ⟨fL o0 o1 o2 o3 o4 (some v) o6 o7 o8 o9 o10,S⟩=.ok v ⟨fL o0 o1 o2 o3 o4 (some v) o6 o7 o8 o9 o10,S⟩:=rfl
theorem al9:aX "start_tail" v ⟨fL o0 o1 o2 o3 o4 o5 o6 o7 o8 o9 o10,S⟩=⟨fL o0 o1 o2 o3 o4 (some v) o6 o7 o8 o9 o10,S⟩:=rfl
theorem ama:aH "path_tail" ⟨fL o0 o1 o2 o3 o4 o5 (some v) o7 o8 o9 o10,S⟩=.ok v ⟨fL o0 o1 o2 o3 o4 o5 (some v) o7 o8 o9 o10,S⟩:=rfl
theorem amb:aX "path_tail" v ⟨fL o0 o1 o2 o3 o4 o5 o6 o7 o8 o9 o10,S⟩=⟨fL o0 o1 o2 o3 o4 o5 (some v) o7 o8 o9 o10,S⟩:=rfl
theorem acC:aH "start_list" ⟨fL o0 o1 o2 o3 o4 o5 o6 (some v) o8 o9 o10,S⟩=.ok v ⟨fL o0 o1 o2 o3 o4 o5 o6 (some v) o8 o9 o10,S⟩:=rfl
theorem amc:aX "start_list" v ⟨fL o0 o1 o2 o3 o4 o5 o6 o7 o8 o9 o10,S⟩=⟨fL o0 o1 o2 o3 o4 o5 o6 (some v) o8 o9 o10,S⟩:=rfl
theorem acD:aH "path_list" ⟨fL o0 o1 o2 o3 o4 o5 o6 o7 (some v) o9 o10,S⟩=.ok v ⟨fL o0 o1 o2 o3 o4 o5 o6 o7 (some v) o9 o10,S⟩:=rfl
theorem amd:aX "path_list" v ⟨fL o0 o1 o2 o3 o4 o5 o6 o7 o8 o9 o10,S⟩=⟨fL o0 o1 o2 o3 o4 o5 o6 o7 (some v) o9 o10,S⟩:=rfl
theorem aiJ:aH "i" ⟨fL o0 o1 o2 o3 o4 o5 o6 o7 o8 (some v) o10,S⟩=.ok v ⟨fL o0 o1 o2 o3 o4 o5 o6 o7 o8 (some v) o10,S⟩:=rfl
theorem aiK:aX "i" v ⟨fL o0 o1 o2 o3 o4 o5 o6 o7 o8 o9 o10,S⟩=⟨fL o0 o1 o2 o3 o4 o5 o6 o7 o8 (some v) o10,S⟩:=rfl
theorem alg:aH "rel_list" ⟨fL o0 o1 o2 o3 o4 o5 o6 o7 o8 o9 (some v),S⟩=.ok v ⟨fL o0 o1 o2 o3 o4 o5 o6 o7 o8 o9 (some v),S⟩:=rfl
theorem afN:aX "rel_list" v ⟨fL o0 o1 o2 o3 o4 o5 o6 o7 o8 o9 o10,S⟩=⟨fL o0 o1 o2 o3 o4 o5 o6 o7 o8 o9 (some v),S⟩:=rfl
end
noncomputable section
variable (cl:Nat->List V->St->aC V) (Y:St)
noncomputable def acE:SB:=λ cl Y=>(((aH "path" Y).bind λ a Y=>(aC.ok [] Y).bind λ b Y=>.ok (a::b) Y).bind λ c Y=>aaR c Y).bind λ d Y=>.ok .next (aX "kind" d Y)
noncomputable def KQ:SB:=λ cl Y=>(aH "path" Y).bind λ a Y=>.ok (.ret a) Y
noncomputable def W7:SB:=λ cl Y=>aA (KQ cl Y) λ Y=>.ok .next Y
noncomputable def acF:SB:=λ cl Y=>((((aH "kind" Y).bind λ a Y=>((((aC.ok (.bi .str) Y).bind λ b Y=>((aC.ok (.bi .bytes) Y).bind λ c Y=>(aC.ok [] Y).bind λ d Y=>.ok (c::d) Y).bind λ e Y=>.ok (b::e) Y).bind λ f Y=>Y.new (.tup f)).bind λ g Y=>(aC.ok [] Y).bind λ h Y=>.ok (g::h) Y).bind λ i Y=>.ok (a::i) Y).bind λ j Y=>Tr j Y).bind λ l Y=>bA (cL l Y) Y).bind λ m Y=>if m then W7 cl Y else .ok .next Y
noncomputable def akh:SB:=λ cl Y=>aA (acE cl Y) λ Y=>aA (acF cl Y) λ Y=>bY (gR cl 60) ((zU 214).drop 2) (Dl 214) Y
theorem acG:bY (gR cl 60) (zU 214) (Dl 214) Y=akh cl Y:=by kernel_rfl
noncomputable def Zf:SB:=λ cl Y=>((aC.bad:aC V)).bind λ a Y=>.ok (.ret a) Y
noncomputable def afO:SB:=λ cl Y=>aA (Zf cl Y) λ Y=>.ok .next Y
noncomputable def Zg:SB:=λ cl Y=>(aC.ok (.str "/") Y).bind λ a Y=>.ok (.ret a) Y
noncomputable def afP:SB:=λ cl Y=>aA (Zg cl Y) λ Y=>.ok .next Y
noncomputable def aiL:SB:=λ cl Y=>((((aH "path" Y).bind λ a Y=>((aC.ok (.bi .bytes) Y).bind λ b Y=>(aC.ok [] Y).bind λ c Y=>.ok (b::c) Y).bind λ d Y=>.ok (a::d) Y).bind λ e Y=>nR e Y).bind λ f Y=>bA (cL f Y) Y).bind λ g Y=>if g then afO cl Y else afP cl Y
noncomputable def ame:SB:=λ cl Y=>aA (aiL cl Y) λ Y=>.ok .next Y
theorem acH:bY (gR cl 60) (zU 235) (Dl 235) Y=ame cl Y:=by kernel_rfl
noncomputable def acI:SB:=λ cl Y=>(((aH "a" Y).bind λ b Y=>(aC.ok [] Y).bind λ c Y=>.ok (b::c) Y).bind λ d Y=>cl 214 d Y).bind λ e Y=>.ok .next (aX "a" e Y)
noncomputable def acJ:SB:=λ cl Y=>(((aH "a" Y).bind λ b Y=>(aC.ok [] Y).bind λ c Y=>.ok (b::c) Y).bind λ d Y=>cl 235 d Y).bind λ e Y=>.ok .next (aX "sep" e Y)
noncomputable def acK:SB:=λ cl Y=>(aH "a" Y).bind λ b Y=>.ok .next (aX "path" b Y)
noncomputable def oh:SB:=λ cl Y=>(((aH "b" Y).bind λ a Y=>(aC.ok [] Y).bind λ c Y=>.ok (a::c) Y).bind λ d Y=>cl 214 d Y).bind λ e Y=>.ok .next (aX "b" e Y)
noncomputable def qw:SB:=λ cl Y=>(aH "b" Y).bind λ a Y=>.ok .next (aX "path" a Y)
noncomputable def tY:SB:=λ cl Y=>aA (qw cl Y) λ Y=>.ok .next Y
noncomputable def rJ:SB:=λ cl Y=>(aH "path" Y).bind λ a Y=>(aH "b" Y).bind λ c Y=>(sY .Add a c Y).bind λ d Y=>.ok .next (aX "path" d Y)
noncomputable def uJ:SB:=λ cl Y=>aA (rJ cl Y) λ Y=>.ok .next Y
noncomputable def rK:SB:=λ cl Y=>(aH "path" Y).bind λ a Y=>((aH "sep" Y).bind λ c Y=>(aH "b" Y).bind λ d Y=>ru c d Y).bind λ e Y=>(sY .Add a e Y).bind λ f Y=>.ok .next (aX "path" f Y)
noncomputable def uK:SB:=λ cl Y=>aA (rK cl Y) λ Y=>.ok .next Y
noncomputable def qx:SB:=λ cl Y=>(((aH "path" Y).bind (cZ cl true "endswith" λ Y=>(aH "sep" Y).bind λ a Y=>(aC.ok [] Y).bind λ b Y=>.ok (a::b) Y)).bind λ c Y=>bA (cL c Y) Y).bind λ d Y=>if d then uJ cl Y else uK cl Y
noncomputable def tZ:SB:=λ cl Y=>aA (qx cl Y) λ Y=>.ok .next Y
noncomputable def ou:SB:=λ cl Y=>((((aH "b" Y).bind (cZ cl true "startswith" λ Y=>(aH "sep" Y).bind λ a Y=>(aC.ok [] Y).bind λ c Y=>.ok (a::c) Y)).bind λ d Y=>bA (cL d Y) Y).bind λ e Y=>if e then .ok e Y else(((aH "path" Y).bind λ f Y=>bA (cL f Y) Y).bind λ g Y=>.ok (!g) Y).bind λ h Y=>if h then .ok h Y else .ok false Y).bind λ i Y=>if i then tY cl Y else tZ cl Y
noncomputable def mL:SB:=λ cl Y=>aA (oh cl Y) λ Y=>aA (ou cl Y) λ Y=>.ok .next Y
noncomputable def Dp:SB:=λ cl Y=>(aH "p" Y).bind (lV (λ v Y=>mL cl (aX "b" v Y)) (λ Y=>.ok .next Y))
noncomputable def W8:SB:=λ cl Y=>aA (Dp cl Y) λ Y=>.ok .next Y
noncomputable def U8:SB:=λ cl Y=>Bb (W8 cl) (λ Y=>.ok .next Y) (λ _ _=>aC.bad) Y
noncomputable def acL:SB:=λ cl Y=>(aH "path" Y).bind λ a Y=>.ok (.ret a) Y
noncomputable def aki:SB:=λ cl Y=>aA (acI cl Y) λ Y=>aA (acJ cl Y) λ Y=>aA (acK cl Y) λ Y=>aA (U8 cl Y) λ Y=>aA (acL cl Y) λ Y=>.ok .next Y
theorem acM:bY (gR cl 60) (zU 242) (Dl 242) Y=aki cl Y:=by kernel_rfl
noncomputable def acN:SB:=λ cl Y=>(((aH "p" Y).bind λ a Y=>(aC.ok [] Y).bind λ b Y=>.ok (a::b) Y).bind λ c Y=>cl 214 c Y).bind λ d Y=>.ok .next (aX "p" d Y)
noncomputable def Zh:SB:=λ cl Y=>((aC.bad:aC V)).bind λ a Y=>.ok .next (aX "sep" a Y)
noncomputable def Zi:SB:=λ cl Y=>((aC.bad:aC V)).bind λ a Y=>.ok .next (aX "empty" a Y)
noncomputable def afQ:SB:=λ cl Y=>aA (Zh cl Y) λ Y=>aA (Zi cl Y) λ Y=>.ok .next Y
noncomputable def KR:SB:=λ cl Y=>(aC.ok (.str "/") Y).bind λ a Y=>.ok .next (aX "sep" a Y)
noncomputable def KY:SB:=λ cl Y=>(aC.ok (.str "") Y).bind λ a Y=>.ok .next (aX "empty" a Y)
noncomputable def W9:SB:=λ cl Y=>aA (KR cl Y) λ Y=>aA (KY cl Y) λ Y=>.ok .next Y
noncomputable def acO:SB:=λ cl Y=>((((aH "p" Y).bind λ a Y=>((aC.ok (.bi .bytes) Y).bind λ b Y=>(aC.ok [] Y).bind λ c Y=>.ok (b::c) Y).bind λ d Y=>.ok (a::d) Y).bind λ e Y=>nR e Y).bind λ f Y=>bA (cL f Y) Y).bind λ g Y=>if g then afQ cl Y else W9 cl Y
noncomputable def KZ:SB:=λ cl Y=>(((aH "empty" Y).bind λ a Y=>((aH "empty" Y).bind λ b Y=>((aH "p" Y).bind λ c Y=>(aC.ok [] Y).bind λ d Y=>.ok (c::d) Y).bind λ e Y=>.ok (b::e) Y).bind λ f Y=>.ok (a::f) Y).bind λ g Y=>Y.new (.tup g)).bind λ h Y=>.ok (.ret h) Y
noncomputable def Xa:SB:=λ cl Y=>aA (KZ cl Y) λ Y=>.ok .next Y
noncomputable def Bc:SB:=λ cl Y=>(((aH "empty" Y).bind λ a Y=>((aH "sep" Y).bind λ b Y=>(((aH "p" Y).bind λ c Y=>(aC.ok (.int 1) Y).bind λ d Y=>(aC.ok .none Y).bind λ e Y=>d9 c d e Y).bind λ f Y=>(aC.ok [] Y).bind λ g Y=>.ok (f::g) Y).bind λ h Y=>.ok (b::h) Y).bind λ i Y=>.ok (a::i) Y).bind λ j Y=>Y.new (.tup j)).bind λ l Y=>.ok (.ret l) Y
noncomputable def Ij:SB:=λ cl Y=>aA (Bc cl Y) λ Y=>.ok .next Y
noncomputable def Ov:SB:=λ cl Y=>(((aH "empty" Y).bind λ a Y=>(((aH "p" Y).bind λ b Y=>(aC.ok .none Y).bind λ c Y=>(aC.ok (.int 2) Y).bind λ d Y=>d9 b c d Y).bind λ e Y=>(((aH "p" Y).bind λ f Y=>(aC.ok (.int 2) Y).bind λ g Y=>(aC.ok .none Y).bind λ h Y=>d9 f g h Y).bind λ i Y=>(aC.ok [] Y).bind λ j Y=>.ok (i::j) Y).bind λ l Y=>.ok (e::l) Y).bind λ m Y=>.ok (a::m) Y).bind λ n Y=>Y.new (.tup n)).bind λ o Y=>.ok (.ret o) Y
noncomputable def U9:SB:=λ cl Y=>aA (Ov cl Y) λ Y=>.ok .next Y
noncomputable def K1:SB:=λ cl Y=>((((aH "p" Y).bind λ a Y=>(aC.ok (.int 1) Y).bind λ b Y=>(aC.ok (.int 2) Y).bind λ c Y=>d9 a b c Y).bind λ d Y=>(aH "sep" Y).bind λ e Y=>(bA (vz d e Y) Y).bind λ f Y=>.ok f Y).bind λ g Y=>if g then .ok g Y else(((aH "p" Y).bind λ h Y=>(aC.ok (.int 2) Y).bind λ i Y=>(aC.ok (.int 3) Y).bind λ j Y=>d9 h i j Y).bind λ l Y=>(aH "sep" Y).bind λ m Y=>(bA (FN l m Y) Y).bind λ n Y=>.ok n Y).bind λ o Y=>if o then .ok o Y else .ok false Y).bind λ q Y=>if q then Ij cl Y else U9 cl Y
noncomputable def Xb:SB:=λ cl Y=>aA (K1 cl Y) λ Y=>.ok .next Y
noncomputable def acP:SB:=λ cl Y=>(((aH "p" Y).bind λ a Y=>(aC.ok .none Y).bind λ b Y=>(aC.ok (.int 1) Y).bind λ c Y=>d9 a b c Y).bind λ d Y=>(aH "sep" Y).bind λ e Y=>(bA (vz d e Y) Y).bind λ f Y=>.ok f Y).bind λ g Y=>if g then Xa cl Y else Xb cl Y
noncomputable def akj:SB:=λ cl Y=>aA (acN cl Y) λ Y=>aA (acO cl Y) λ Y=>aA (acP cl Y) λ Y=>.ok .next Y
theorem acQ:bY (gR cl 60) (zU 249) (Dl 249) Y=akj cl Y:=by kernel_rfl
noncomputable def acR:SB:=λ cl Y=>(((aH "p" Y).bind λ a Y=>(aC.ok [] Y).bind λ b Y=>.ok (a::b) Y).bind λ c Y=>cl 214 c Y).bind λ d Y=>.ok .next (aX "p" d Y)
noncomputable def acS:SB:=λ cl Y=>(((aH "p" Y).bind λ a Y=>(aC.ok [] Y).bind λ b Y=>.ok (a::b) Y).bind λ c Y=>cl 235 c Y).bind λ d Y=>.ok .next (aX "sep" d Y)
noncomputable def acT:SB:=λ cl Y=>(((aH "p" Y).bind (cZ cl true "rfind" λ Y=>(aH "sep" Y).bind λ a Y=>(aC.ok [] Y).bind λ b Y=>.ok (a::b) Y)).bind λ c Y=>(aC.ok (.int 1) Y).bind λ d Y=>ru c d Y).bind λ e Y=>.ok .next (aX "i" e Y)
noncomputable def acU:SB:=λ cl Y=>((aH "p" Y).bind λ a Y=>(aC.ok .none Y).bind λ b Y=>(aH "i" Y).bind λ c Y=>d9 a b c Y).bind λ d Y=>.ok .next (aX "head" d Y)
noncomputable def K3:SB:=λ cl Y=>((aH "head" Y).bind (cZ cl true "rstrip" λ Y=>(aH "sep" Y).bind λ a Y=>(aC.ok [] Y).bind λ b Y=>.ok (a::b) Y)).bind λ c Y=>.ok .next (aX "head" c Y)
noncomputable def Xc:SB:=λ cl Y=>aA (K3 cl Y) λ Y=>.ok .next Y
noncomputable def Ow:SB:=λ cl Y=>(((aH "head" Y).bind λ a Y=>bA (cL a Y) Y).bind λ b Y=>if !b then .ok b Y else((aH "head" Y).bind λ c Y=>((aH "sep" Y).bind λ d Y=>(((aH "head" Y).bind λ e Y=>(aC.ok [] Y).bind λ f Y=>.ok (e::f) Y).bind λ g Y=>zH g Y).bind λ h Y=>GJ d h Y).bind λ i Y=>(bA (vz c i Y) Y).bind λ j Y=>.ok j Y).bind λ l Y=>if !l then .ok l Y else .ok true Y).bind λ m Y=>if m then Xc cl Y else .ok .next Y
noncomputable def Ox:SB:=λ cl Y=>(aH "head" Y).bind λ a Y=>.ok (.ret a) Y
noncomputable def akk:SB:=λ cl Y=>aA (acR cl Y) λ Y=>aA (acS cl Y) λ Y=>aA (acT cl Y) λ Y=>aA (acU cl Y) λ Y=>aA (Ow cl Y) λ Y=>aA (Ox cl Y) λ Y=>.ok .next Y
theorem acV:bY (gR cl 60) (zU 256) (Dl 256) Y=akk cl Y:=by kernel_rfl
noncomputable def acW:SB:=λ cl Y=>(((aH "path" Y).bind λ a Y=>(aC.ok [] Y).bind λ b Y=>.ok (a::b) Y).bind λ c Y=>cl 214 c Y).bind λ d Y=>.ok .next (aX "path" d Y)
noncomputable def Zj:SB:=λ cl Y=>((aC.bad:aC V)).bind λ a Y=>.ok .next (aX "sep" a Y)
noncomputable def Zk:SB:=λ cl Y=>((aC.bad:aC V)).bind λ a Y=>.ok .next (aX "dot" a Y)
noncomputable def Zm:SB:=λ cl Y=>((aC.bad:aC V)).bind λ a Y=>.ok .next (aX "dotdot" a Y)
noncomputable def afR:SB:=λ cl Y=>aA (Zj cl Y) λ Y=>aA (Zk cl Y) λ Y=>aA (Zm cl Y) λ Y=>.ok .next Y
noncomputable def K4:SB:=λ cl Y=>(aC.ok (.str "/") Y).bind λ a Y=>.ok .next (aX "sep" a Y)
noncomputable def K5:SB:=λ cl Y=>(aC.ok (.str ".") Y).bind λ a Y=>.ok .next (aX "dot" a Y)
noncomputable def K6:SB:=λ cl Y=>(aC.ok (.str "..") Y).bind λ a Y=>.ok .next (aX "dotdot" a Y)
noncomputable def Xd:SB:=λ cl Y=>aA (K4 cl Y) λ Y=>aA (K5 cl Y) λ Y=>aA (K6 cl Y) λ Y=>.ok .next Y
noncomputable def acX:SB:=λ cl Y=>((((aH "path" Y).bind λ a Y=>((aC.ok (.bi .bytes) Y).bind λ b Y=>(aC.ok [] Y).bind λ c Y=>.ok (b::c) Y).bind λ d Y=>.ok (a::d) Y).bind λ e Y=>nR e Y).bind λ f Y=>bA (cL f Y) Y).bind λ g Y=>if g then afR cl Y else Xd cl Y
noncomputable def Zn:SB:=λ cl Y=>(aH "dot" Y).bind λ a Y=>.ok (.ret a) Y
noncomputable def afS:SB:=λ cl Y=>aA (Zn cl Y) λ Y=>.ok .next Y
noncomputable def acY:SB:=λ cl Y=>(((aH "path" Y).bind λ a Y=>bA (cL a Y) Y).bind λ b Y=>.ok (!b) Y).bind λ c Y=>if c then afS cl Y else .ok .next Y
noncomputable def acZ:SB:=λ cl Y=>(((aH "path" Y).bind λ a Y=>(aC.ok [] Y).bind λ b Y=>.ok (a::b) Y).bind λ c Y=>cl 249 c Y).bind λ d Y=>((Gs ["_","initial_slashes","path"] d Y).bind λ _ Y=>.ok () Y).bind λ _ Y=>.ok .next Y
noncomputable def Va:SB:=λ cl Y=>((aH "path" Y).bind (cZ cl true "split" λ Y=>(aH "sep" Y).bind λ a Y=>(aC.ok [] Y).bind λ b Y=>.ok (a::b) Y)).bind λ c Y=>.ok .next (aX "comps" c Y)
noncomputable def Vb:SB:=λ cl Y=>((aC.ok [] Y).bind λ a Y=>Y.new (.list a)).bind λ b Y=>.ok .next (aX "new_comps" b Y)
noncomputable def Oz:SB:=λ cl Y=>.ok .cont Y
noncomputable def Vc:SB:=λ cl Y=>aA (Oz cl Y) λ Y=>.ok .next Y
noncomputable def Dq:SB:=λ cl Y=>((((aH "comp" Y).bind λ a Y=>bA (cL a Y) Y).bind λ b Y=>.ok (!b) Y).bind λ c Y=>if c then .ok c Y else((aH "comp" Y).bind λ d Y=>(aH "dot" Y).bind λ e Y=>(bA (FN d e Y) Y).bind λ f Y=>.ok f Y).bind λ g Y=>if g then .ok g Y else .ok false Y).bind λ h Y=>if h then Vc cl Y else .ok .next Y
noncomputable def OD:SB:=λ cl Y=>((aH "new_comps" Y).bind (cZ cl true "append" λ Y=>(aH "comp" Y).bind λ a Y=>(aC.ok [] Y).bind λ b Y=>.ok (a::b) Y)).bind λ _ Y=>.ok .next Y
noncomputable def vR:SB:=λ cl Y=>aA (OD cl Y) λ Y=>.ok .next Y
noncomputable def Ga:SB:=λ cl Y=>((aH "new_comps" Y).bind (cZ cl true "pop" λ Y=>.ok [] Y)).bind λ _ Y=>.ok .next Y
noncomputable def JH:SB:=λ cl Y=>aA (Ga cl Y) λ Y=>.ok .next Y
noncomputable def OJ:SB:=λ cl Y=>((aH "new_comps" Y).bind λ a Y=>bA (cL a Y) Y).bind λ b Y=>if b then JH cl Y else .ok .next Y
noncomputable def Ik:SB:=λ cl Y=>aA (OJ cl Y) λ Y=>.ok .next Y
noncomputable def Dr:SB:=λ cl Y=>(((aH "comp" Y).bind λ a Y=>(aH "dotdot" Y).bind λ b Y=>(bA (vz a b Y) Y).bind λ c Y=>.ok c Y).bind λ d Y=>if d then .ok d Y else((((aH "initial_slashes" Y).bind λ e Y=>bA (cL e Y) Y).bind λ f Y=>.ok (!f) Y).bind λ g Y=>if !g then .ok g Y else(((aH "new_comps" Y).bind λ h Y=>bA (cL h Y) Y).bind λ i Y=>.ok (!i) Y).bind λ j Y=>if !j then .ok j Y else .ok true Y).bind λ l Y=>if l then .ok l Y else(((aH "new_comps" Y).bind λ m Y=>bA (cL m Y) Y).bind λ n Y=>if !n then .ok n Y else(((aH "new_comps" Y).bind λ o Y=>((aC.ok (.int 1) Y).bind (WN .USub)).bind λ p Y=>jm (iz o p Y) Y).bind λ q Y=>(aH "dotdot" Y).bind λ r Y=>(bA (FN q r Y) Y).bind λ s Y=>.ok s Y).bind λ t Y=>if !t then .ok t Y else .ok true Y).bind λ u Y=>if u then .ok u Y else .ok false Y).bind λ w Y=>if w then vR cl Y else Ik cl Y
noncomputable def Be:SB:=λ cl Y=>aA (Dq cl Y) λ Y=>aA (Dr cl Y) λ Y=>.ok .next Y
noncomputable def Vd:SB:=λ cl Y=>(aH "comps" Y).bind (lV (λ v Y=>Be cl (aX "comp" v Y)) (λ Y=>.ok .next Y))
noncomputable def ac0:SB:=λ cl Y=>(aH "new_comps" Y).bind λ a Y=>.ok .next (aX "comps" a Y)
noncomputable def ac1:SB:=λ cl Y=>((aH "initial_slashes" Y).bind λ a Y=>((aH "sep" Y).bind (cZ cl true "join" λ Y=>(aH "comps" Y).bind λ b Y=>(aC.ok [] Y).bind λ c Y=>.ok (b::c) Y)).bind λ d Y=>ru a d Y).bind λ e Y=>.ok .next (aX "path" e Y)
noncomputable def Ve:SB:=λ cl Y=>((aH "path" Y).bind λ a Y=>(bA (cL a Y) Y).bind λ b Y=>if b then .ok a Y else aH "dot" Y).bind λ c Y=>.ok (.ret c) Y
noncomputable def akl:SB:=λ cl Y=>aA (acW cl Y) λ Y=>aA (acX cl Y) λ Y=>aA (acY cl Y) λ Y=>aA (acZ cl Y) λ Y=>aA (Va cl Y) λ Y=>aA (Vb cl Y) λ Y=>aA (Vd cl Y) λ Y=>aA (ac0 cl Y) λ Y=>aA (ac1 cl Y) λ Y=>aA (Ve cl Y) λ Y=>.ok .next Y
theorem ac2:bY (gR cl 60) (zU 263) (Dl 263) Y=akl cl Y:=by kernel_rfl
noncomputable def ac3:SB:=λ cl Y=>(((aH "path" Y).bind λ a Y=>(aC.ok [] Y).bind λ b Y=>.ok (a::b) Y).bind λ c Y=>cl 214 c Y).bind λ d Y=>.ok .next (aX "path" d Y)
noncomputable def O1:SB:=λ cl Y=>(((((aC.bad:aC V)).bind λ a Y=>(aC.ok [] Y).bind λ b Y=>Ig cl true a b Y).bind λ c Y=>((aH "path" Y).bind λ d Y=>(aC.ok [] Y).bind λ e Y=>.ok (d::e) Y).bind λ f Y=>.ok (c::f) Y).bind λ g Y=>cl 242 g Y).bind λ h Y=>.ok .next (aX "path" h Y)
noncomputable def Vf:SB:=λ cl Y=>aA (O1 cl Y) λ Y=>.ok .next Y
noncomputable def Zo:SB:=λ cl Y=>((((aH "path" Y).bind (cZ cl true "startswith" λ Y=>((aC.bad:aC V)).bind λ a Y=>(aC.ok [] Y).bind λ b Y=>.ok (a::b) Y)).bind λ c Y=>bA (cL c Y) Y).bind λ d Y=>.ok (!d) Y).bind λ e Y=>if e then Vf cl Y else .ok .next Y
noncomputable def afT:SB:=λ cl Y=>aA (Zo cl Y) λ Y=>.ok .next Y
noncomputable def O2:SB:=λ cl Y=>(((((aC.bad:aC V)).bind λ a Y=>(aC.ok [] Y).bind λ b Y=>Ig cl true a b Y).bind λ c Y=>((aH "path" Y).bind λ d Y=>(aC.ok [] Y).bind λ e Y=>.ok (d::e) Y).bind λ f Y=>.ok (c::f) Y).bind λ g Y=>cl 242 g Y).bind λ h Y=>.ok .next (aX "path" h Y)
noncomputable def Vg:SB:=λ cl Y=>aA (O2 cl Y) λ Y=>.ok .next Y
noncomputable def K7:SB:=λ cl Y=>((((aH "path" Y).bind (cZ cl true "startswith" λ Y=>(aC.ok (.str "/") Y).bind λ a Y=>(aC.ok [] Y).bind λ b Y=>.ok (a::b) Y)).bind λ c Y=>bA (cL c Y) Y).bind λ d Y=>.ok (!d) Y).bind λ e Y=>if e then Vg cl Y else .ok .next Y
noncomputable def Xe:SB:=λ cl Y=>aA (K7 cl Y) λ Y=>.ok .next Y
noncomputable def ac4:SB:=λ cl Y=>((((aH "path" Y).bind λ a Y=>((aC.ok (.bi .bytes) Y).bind λ b Y=>(aC.ok [] Y).bind λ c Y=>.ok (b::c) Y).bind λ d Y=>.ok (a::d) Y).bind λ e Y=>nR e Y).bind λ f Y=>bA (cL f Y) Y).bind λ g Y=>if g then afT cl Y else Xe cl Y
noncomputable def ac5:SB:=λ cl Y=>(((aH "path" Y).bind λ a Y=>(aC.ok [] Y).bind λ b Y=>.ok (a::b) Y).bind λ c Y=>cl 263 c Y).bind λ d Y=>.ok (.ret d) Y
noncomputable def akm:SB:=λ cl Y=>aA (ac3 cl Y) λ Y=>aA (ac4 cl Y) λ Y=>aA (ac5 cl Y) λ Y=>.ok .next Y
theorem ac6:bY (gR cl 60) (zU 270) (Dl 270) Y=akm cl Y:=by kernel_rfl
noncomputable def ac7:SB:=λ cl Y=>(((aH "path" Y).bind λ a Y=>(aC.ok [] Y).bind λ b Y=>.ok (a::b) Y).bind λ c Y=>cl 214 c Y).bind λ d Y=>.ok .next (aX "path" d Y)
noncomputable def Zq:SB:=λ cl Y=>aC.bad
noncomputable def afU:SB:=λ cl Y=>aA (Zq cl Y) λ Y=>.ok .next Y
noncomputable def ac8:SB:=λ cl Y=>(((aH "path" Y).bind λ a Y=>bA (cL a Y) Y).bind λ b Y=>.ok (!b) Y).bind λ c Y=>if c then afU cl Y else .ok .next Y
noncomputable def Zr:SB:=λ cl Y=>((aC.bad:aC V)).bind λ a Y=>.ok .next (aX "curdir" a Y)
noncomputable def Zt:SB:=λ cl Y=>((aC.bad:aC V)).bind λ a Y=>.ok .next (aX "sep" a Y)
noncomputable def Zu:SB:=λ cl Y=>((aC.bad:aC V)).bind λ a Y=>.ok .next (aX "pardir" a Y)
noncomputable def afV:SB:=λ cl Y=>aA (Zr cl Y) λ Y=>aA (Zt cl Y) λ Y=>aA (Zu cl Y) λ Y=>.ok .next Y
noncomputable def K8:SB:=λ cl Y=>(aC.ok (.str ".") Y).bind λ a Y=>.ok .next (aX "curdir" a Y)
noncomputable def K9:SB:=λ cl Y=>(aC.ok (.str "/") Y).bind λ a Y=>.ok .next (aX "sep" a Y)
noncomputable def La:SB:=λ cl Y=>(aC.ok (.str "..") Y).bind λ a Y=>.ok .next (aX "pardir" a Y)
noncomputable def Xf:SB:=λ cl Y=>aA (K8 cl Y) λ Y=>aA (K9 cl Y) λ Y=>aA (La cl Y) λ Y=>.ok .next Y
noncomputable def ac9:SB:=λ cl Y=>((((aH "path" Y).bind λ a Y=>((aC.ok (.bi .bytes) Y).bind λ b Y=>(aC.ok [] Y).bind λ c Y=>.ok (b::c) Y).bind λ d Y=>.ok (a::d) Y).bind λ e Y=>nR e Y).bind λ f Y=>bA (cL f Y) Y).bind λ g Y=>if g then afV cl Y else Xf cl Y
noncomputable def Zv:SB:=λ cl Y=>(aH "curdir" Y).bind λ a Y=>.ok .next (aX "start" a Y)
noncomputable def afW:SB:=λ cl Y=>aA (Zv cl Y) λ Y=>.ok .next Y
noncomputable def Lb:SB:=λ cl Y=>(((aH "start" Y).bind λ a Y=>(aC.ok [] Y).bind λ b Y=>.ok (a::b) Y).bind λ c Y=>cl 214 c Y).bind λ d Y=>.ok .next (aX "start" d Y)
noncomputable def Xh:SB:=λ cl Y=>aA (Lb cl Y) λ Y=>.ok .next Y
noncomputable def ada:SB:=λ cl Y=>((aH "start" Y).bind λ a Y=>(aC.ok (.none) Y).bind λ b Y=>(bA (Tq a b) Y).bind λ c Y=>.ok c Y).bind λ d Y=>if d then afW cl Y else Xh cl Y
noncomputable def Ld:SB:=λ cl Y=>((((aH "start" Y).bind λ a Y=>(aC.ok [] Y).bind λ b Y=>.ok (a::b) Y).bind λ c Y=>cl 270 c Y).bind (cZ cl true "lstrip" λ Y=>(aH "sep" Y).bind λ d Y=>(aC.ok [] Y).bind λ e Y=>.ok (d::e) Y)).bind λ f Y=>.ok .next (aX "start_tail" f Y)
noncomputable def Le:SB:=λ cl Y=>((((aH "path" Y).bind λ a Y=>(aC.ok [] Y).bind λ b Y=>.ok (a::b) Y).bind λ c Y=>cl 270 c Y).bind (cZ cl true "lstrip" λ Y=>(aH "sep" Y).bind λ d Y=>(aC.ok [] Y).bind λ e Y=>.ok (d::e) Y)).bind λ f Y=>.ok .next (aX "path_tail" f Y)
noncomputable def Lg:SB:=λ cl Y=>(((aH "start_tail" Y).bind λ a Y=>bA (cL a Y) Y).bind λ b Y=>if b then(aH "start_tail" Y).bind (cZ cl true "split" λ Y=>(aH "sep" Y).bind λ c Y=>(aC.ok [] Y).bind λ d Y=>.ok (c::d) Y)else(aC.ok [] Y).bind λ e Y=>Y.new (.list e)).bind λ f Y=>.ok .next (aX "start_list" f Y)
noncomputable def Lh:SB:=λ cl Y=>(((aH "path_tail" Y).bind λ a Y=>bA (cL a Y) Y).bind λ b Y=>if b then(aH "path_tail" Y).bind (cZ cl true "split" λ Y=>(aH "sep" Y).bind λ c Y=>(aC.ok [] Y).bind λ d Y=>.ok (c::d) Y)else(aC.ok [] Y).bind λ e Y=>Y.new (.list e)).bind λ f Y=>.ok .next (aX "path_list" f Y)
noncomputable def Ds:SB:=λ cl Y=>(((((((aH "start_list" Y).bind λ a Y=>((aH "path_list" Y).bind λ b Y=>(aC.ok [] Y).bind λ c Y=>.ok (b::c) Y).bind λ d Y=>.ok (a::d) Y).bind λ e Y=>Y.new (.list e)).bind λ f Y=>(aC.ok [] Y).bind λ g Y=>.ok (f::g) Y).bind λ h Y=>cl 221 h Y).bind λ j Y=>(aC.ok [] Y).bind λ l Y=>.ok (j::l) Y).bind λ m Y=>zH m Y).bind λ n Y=>.ok .next (aX "i" n Y)
noncomputable def Dt:SB:=λ cl Y=>(((((aH "pardir" Y).bind λ a Y=>(aC.ok [] Y).bind λ b Y=>.ok (a::b) Y).bind λ c Y=>Y.new (.list c)).bind λ d Y=>((((aH "start_list" Y).bind λ e Y=>(aC.ok [] Y).bind λ f Y=>.ok (e::f) Y).bind λ g Y=>zH g Y).bind λ h Y=>(aH "i" Y).bind λ j Y=>nQ .Sub h j Y).bind λ l Y=>GJ d l Y).bind λ m Y=>((aH "path_list" Y).bind λ n Y=>(aH "i" Y).bind λ o Y=>(aC.ok .none Y).bind λ p Y=>d9 n o p Y).bind λ q Y=>ru m q Y).bind λ r Y=>.ok .next (aX "rel_list" r Y)
noncomputable def O3:SB:=λ cl Y=>(aH "curdir" Y).bind λ a Y=>.ok (.ret a) Y
noncomputable def Vh:SB:=λ cl Y=>aA (O3 cl Y) λ Y=>.ok .next Y
noncomputable def Li:SB:=λ cl Y=>(((aH "rel_list" Y).bind λ a Y=>bA (cL a Y) Y).bind λ b Y=>.ok (!b) Y).bind λ c Y=>if c then Vh cl Y else .ok .next Y
noncomputable def Lj:SB:=λ cl Y=>((aH "sep" Y).bind (cZ cl true "join" λ Y=>(aH "rel_list" Y).bind λ a Y=>(aC.ok [] Y).bind λ b Y=>.ok (a::b) Y)).bind λ c Y=>.ok (.ret c) Y
noncomputable def Xi:SB:=λ cl Y=>aA (Ld cl Y) λ Y=>aA (Le cl Y) λ Y=>aA (Lg cl Y) λ Y=>aA (Lh cl Y) λ Y=>aA (Ds cl Y) λ Y=>aA (Dt cl Y) λ Y=>aA (Li cl Y) λ Y=>aA (Lj cl Y) λ Y=>.ok .next Y
noncomputable def Vi:SB:=λ cl Y=>Bb (Xi cl) (λ Y=>.ok .next Y) (λ _ _=>aC.bad) Y
noncomputable def akn:SB:=λ cl Y=>aA (ac7 cl Y) λ Y=>aA (ac8 cl Y) λ Y=>aA (ac9 cl Y) λ Y=>aA (ada cl Y) λ Y=>aA (Vi cl Y) λ Y=>.ok .next Y
theorem adb:bY (gR cl 60) (zU 278) (Dl 278) Y=akn cl Y:=by kernel_rfl
end
section
variable (o0 o1 o2 o3 o4 o5 o6 o7 o8 o9 o10 o11 o12 o13 o14 o15 o16 o17 o18 o19 o20 o21 o22 o23 o24 o25 o26 o27 o28 o29 o30 o31 o32 o33 o34 o35:Option V) (S:List O) (v:V)
noncomputable def qy:List (Str×Option V):=[("m",o0),("s1",o1),("s2",o2),("i",o3),("c",o4)]
theorem aiM:aH "m" ⟨qy (some v) o1 o2 o3 o4,S⟩=.ok v ⟨qy (some v) o1 o2 o3 o4,S⟩:=rfl
theorem amf:aX "m" v ⟨qy o0 o1 o2 o3 o4,S⟩=⟨qy (some v) o1 o2 o3 o4,S⟩:=rfl
theorem Vj:aH "s1" ⟨qy o0 (some v) o2 o3 o4,S⟩=.ok v ⟨qy o0 (some v) o2 o3 o4,S⟩:=rfl
theorem aiN:aX "s1" v ⟨qy o0 o1 o2 o3 o4,S⟩=⟨qy o0 (some v) o2 o3 o4,S⟩:=rfl
theorem Vk:aH "s2" ⟨qy o0 o1 (some v) o3 o4,S⟩=.ok v ⟨qy o0 o1 (some v) o3 o4,S⟩:=rfl
theorem aiO:aX "s2" v ⟨qy o0 o1 o2 o3 o4,S⟩=⟨qy o0 o1 (some v) o3 o4,S⟩:=rfl
theorem ade:aH "i" ⟨qy o0 o1 o2 (some v) o4,S⟩=.ok v ⟨qy o0 o1 o2 (some v) o4,S⟩:=rfl
theorem adf:aX "i" v ⟨qy o0 o1 o2 o3 o4,S⟩=⟨qy o0 o1 o2 (some v) o4,S⟩:=rfl
theorem adg:aH "c" ⟨qy o0 o1 o2 o3 (some v),S⟩=.ok v ⟨qy o0 o1 o2 o3 (some v),S⟩:=rfl
theorem adh:aX "c" v ⟨qy o0 o1 o2 o3 o4,S⟩=⟨qy o0 o1 o2 o3 (some v),S⟩:=rfl
noncomputable def jK:List (Str×Option V):=[("paths",o0),("split_paths",o1),("isabs",o2),("c",o3),("s1",o4),("s2",o5),("common",o6),("i",o7),("prefix",o8)]
theorem Vl:aH "paths" ⟨jK (some v) o1 o2 o3 o4 o5 o6 o7 o8,S⟩=.ok v ⟨jK (some v) o1 o2 o3 o4 o5 o6 o7 o8,S⟩:=rfl
theorem aiP:aX "paths" v ⟨jK o0 o1 o2 o3 o4 o5 o6 o7 o8,S⟩=⟨jK (some v) o1 o2 o3 o4 o5 o6 o7 o8,S⟩:=rfl
theorem adi:aH "split_paths" ⟨jK o0 (some v) o2 o3 o4 o5 o6 o7 o8,S⟩=.ok v ⟨jK o0 (some v) o2 o3 o4 o5 o6 o7 o8,S⟩:=rfl
theorem adk:aX "split_paths" v ⟨jK o0 o1 o2 o3 o4 o5 o6 o7 o8,S⟩=⟨jK o0 (some v) o2 o3 o4 o5 o6 o7 o8,S⟩:=rfl
theorem aiQ:aH "isabs" ⟨jK o0 o1 (some v) o3 o4 o5 o6 o7 o8,S⟩=.ok v ⟨jK o0 o1 (some v) o3 o4 o5 o6 o7 o8,S⟩:=rfl
theorem aiR:aX "isabs" v ⟨jK o0 o1 o2 o3 o4 o5 o6 o7 o8,S⟩=⟨jK o0 o1 (some v) o3 o4 o5 o6 o7 o8,S⟩:=rfl
theorem adl:aH "c" ⟨jK o0 o1 o2 (some v) o4 o5 o6 o7 o8,S⟩=.ok v ⟨jK o0 o1 o2 (some v) o4 o5 o6 o7 o8,S⟩:=rfl
theorem adm:aX "c" v ⟨jK o0 o1 o2 o3 o4 o5 o6 o7 o8,S⟩=⟨jK o0 o1 o2 (some v) o4 o5 o6 o7 o8,S⟩:=rfl
theorem Vm:aH "s1" ⟨jK o0 o1 o2 o3 (some v) o5 o6 o7 o8,S⟩=.ok v ⟨jK o0 o1 o2 o3 (some v) o5 o6 o7 o8,S⟩:=rfl
theorem aiS:aX "s1" v ⟨jK o0 o1 o2 o3 o4 o5 o6 o7 o8,S⟩=⟨jK o0 o1 o2 o3 (some v) o5 o6 o7 o8,S⟩:=rfl
theorem adn:aH "s2" ⟨jK o0 o1 o2 o3 o4 (some v) o6 o7 o8,S⟩=.ok v ⟨jK o0 o1 o2 o3 o4 (some v) o6 o7 o8,S⟩:=rfl
theorem aiT:aX "s2" v ⟨jK o0 o1 o2 o3 o4 o5 o6 o7 o8,S⟩=⟨jK o0 o1 o2 o3 o4 (some v) o6 o7 o8,S⟩:=rfl
theorem aiU:aH "common" ⟨jK o0 o1 o2 o3 o4 o5 (some v) o7 o8,S⟩=.ok v ⟨jK o0 o1 o2 o3 o4 o5 (some v) o7 o8,S⟩:=rfl
theorem ado:aX "common" v ⟨jK o0 o1 o2 o3 o4 o5 o6 o7 o8,S⟩=⟨jK o0 o1 o2 o3 o4 o5 (some v) o7 o8,S⟩:=rfl
theorem adp:aH "i" ⟨jK o0 o1 o2 o3 o4 o5 o6 (some v) o8,S⟩=.ok v ⟨jK o0 o1 o2 o3 o4 o5 o6 (some v) o8,S⟩:=rfl
theorem adq:aX "i" v ⟨jK o0 o1 o2 o3 o4 o5 o6 o7 o8,S⟩=⟨jK o0 o1 o2 o3 o4 o5 o6 (some v) o8,S⟩:=rfl
theorem aiV:aH "prefix" ⟨jK o0 o1 o2 o3 o4 o5 o6 o7 (some v),S⟩=.ok v ⟨jK o0 o1 o2 o3 o4 o5 o6 o7 (some v),S⟩:=rfl
theorem aiW:aX "prefix" v ⟨jK o0 o1 o2 o3 o4 o5 o6 o7 o8,S⟩=⟨jK o0 o1 o2 o3 o4 o5 o6 o7 (some v),S⟩:=rfl
noncomputable def adt:List (Str×Option V):=[("parts",o0)]
theorem adu:aH "parts" ⟨adt (some v),S⟩=.ok v ⟨adt (some v),S⟩:=rfl
theorem amg:aX "parts" v ⟨adt o0,S⟩=⟨adt (some v),S⟩:=rfl
noncomputable def sW:List (Str×Option V):=[("folder",o0),("pieces",o1),("parts",o2),("piece",o3)]
theorem aiX:aH "folder" ⟨sW (some v) o1 o2 o3,S⟩=.ok v ⟨sW (some v) o1 o2 o3,S⟩:=rfl
theorem amh:aX "folder" v ⟨sW o0 o1 o2 o3,S⟩=⟨sW (some v) o1 o2 o3,S⟩:=rfl
theorem aiY:aH "pieces" ⟨sW o0 (some v) o2 o3,S⟩=.ok v ⟨sW o0 (some v) o2 o3,S⟩:=rfl
theorem ami:aX "pieces" v ⟨sW o0 o1 o2 o3,S⟩=⟨sW o0 (some v) o2 o3,S⟩:=rfl
theorem adv:aH "parts" ⟨sW o0 o1 (some v) o3,S⟩=.ok v ⟨sW o0 o1 (some v) o3,S⟩:=rfl
theorem Vn:aX "parts" v ⟨sW o0 o1 o2 o3,S⟩=⟨sW o0 o1 (some v) o3,S⟩:=rfl
theorem O4:aH "piece" ⟨sW o0 o1 o2 (some v),S⟩=.ok v ⟨sW o0 o1 o2 (some v),S⟩:=rfl
theorem amj:aX "piece" v ⟨sW o0 o1 o2 o3,S⟩=⟨sW o0 o1 o2 (some v),S⟩:=rfl
noncomputable def rM:List (Str×Option V):=[("pieces",o0),("parts",o1),("piece",o2)]
theorem aiZ:aH "pieces" ⟨rM (some v) o1 o2,S⟩=.ok v ⟨rM (some v) o1 o2,S⟩:=rfl
theorem amk:aX "pieces" v ⟨rM o0 o1 o2,S⟩=⟨rM (some v) o1 o2,S⟩:=rfl
theorem O5:aH "parts" ⟨rM o0 (some v) o2,S⟩=.ok v ⟨rM o0 (some v) o2,S⟩:=rfl
theorem Vo:aX "parts" v ⟨rM o0 o1 o2,S⟩=⟨rM o0 (some v) o2,S⟩:=rfl
theorem Du:aH "piece" ⟨rM o0 o1 (some v),S⟩=.ok v ⟨rM o0 o1 (some v),S⟩:=rfl
theorem aml:aX "piece" v ⟨rM o0 o1 o2,S⟩=⟨rM o0 o1 (some v),S⟩:=rfl
noncomputable def rN:List (Str×Option V):=[("one",o0),("other",o1),("same",o2)]
theorem Vp:aH "one" ⟨rN (some v) o1 o2,S⟩=.ok v ⟨rN (some v) o1 o2,S⟩:=rfl
theorem amm:aX "one" v ⟨rN o0 o1 o2,S⟩=⟨rN (some v) o1 o2,S⟩:=rfl
theorem Vq:aH "other" ⟨rN o0 (some v) o2,S⟩=.ok v ⟨rN o0 (some v) o2,S⟩:=rfl
theorem amn:aX "other" v ⟨rN o0 o1 o2,S⟩=⟨rN o0 (some v) o2,S⟩:=rfl
theorem Il:aH "same" ⟨rN o0 o1 (some v),S⟩=.ok v ⟨rN o0 o1 (some v),S⟩:=rfl
theorem adw:aX "same" v ⟨rN o0 o1 o2,S⟩=⟨rN o0 o1 (some v),S⟩:=rfl
end
noncomputable section
variable (cl:Nat->List V->St->aC V) (Y:St)
noncomputable def Zw:SB:=λ cl Y=>(aC.ok (.str "") Y).bind λ a Y=>.ok (.ret a) Y
noncomputable def afX:SB:=λ cl Y=>aA (Zw cl Y) λ Y=>.ok .next Y
noncomputable def adx:SB:=λ cl Y=>(((aH "m" Y).bind λ a Y=>bA (cL a Y) Y).bind λ b Y=>.ok (!b) Y).bind λ c Y=>if c then afX cl Y else .ok .next Y
noncomputable def Zx:SB:=λ cl Y=>(((((aC.ok (.fn 214) Y).bind λ a Y=>((aH "m" Y).bind λ b Y=>(aC.ok [] Y).bind λ c Y=>.ok (b::c) Y).bind λ d Y=>.ok (a::d) Y).bind λ e Y=>gq cl .map e Y).bind λ f Y=>(aC.ok [] Y).bind λ g Y=>.ok (f::g) Y).bind λ h Y=>gq cl .tuple h Y).bind λ i Y=>.ok .next (aX "m" i Y)
noncomputable def afY:SB:=λ cl Y=>aA (Zx cl Y) λ Y=>.ok .next Y
noncomputable def ady:SB:=λ cl Y=>((((((aH "m" Y).bind λ a Y=>(aC.ok (.int 0) Y).bind λ b Y=>jm (iz a b Y) Y).bind λ c Y=>((((aC.ok (.bi .list) Y).bind λ d Y=>((aC.ok (.bi .tuple) Y).bind λ e Y=>(aC.ok [] Y).bind λ f Y=>.ok (e::f) Y).bind λ g Y=>.ok (d::g) Y).bind λ h Y=>Y.new (.tup h)).bind λ i Y=>(aC.ok [] Y).bind λ j Y=>.ok (i::j) Y).bind λ l Y=>.ok (c::l) Y).bind λ n Y=>nR n Y).bind λ o Y=>bA (cL o Y) Y).bind λ p Y=>.ok (!p) Y).bind λ q Y=>if q then afY cl Y else .ok .next Y
noncomputable def adz:SB:=λ cl Y=>(((aH "m" Y).bind λ a Y=>(aC.ok [] Y).bind λ b Y=>.ok (a::b) Y).bind λ c Y=>Qm c Y).bind λ d Y=>.ok .next (aX "s1" d Y)
noncomputable def adA:SB:=λ cl Y=>(((aH "m" Y).bind λ a Y=>(aC.ok [] Y).bind λ b Y=>.ok (a::b) Y).bind λ c Y=>GQ true c Y).bind λ d Y=>.ok .next (aX "s2" d Y)
noncomputable def Bf:SB:=λ cl Y=>((aH "s1" Y).bind λ a Y=>(aC.ok .none Y).bind λ b Y=>(aH "i" Y).bind λ c Y=>d9 a b c Y).bind λ d Y=>.ok (.ret d) Y
noncomputable def Im:SB:=λ cl Y=>aA (Bf cl Y) λ Y=>.ok .next Y
noncomputable def Dv:SB:=λ cl Y=>((aH "c" Y).bind λ a Y=>((aH "s2" Y).bind λ b Y=>(aH "i" Y).bind λ d Y=>jm (iz b d Y) Y).bind λ e Y=>(bA (vz a e Y) Y).bind λ f Y=>.ok f Y).bind λ g Y=>if g then Im cl Y else .ok .next Y
noncomputable def Bg:SB:=λ cl Y=>aA (Dv cl Y) λ Y=>.ok .next Y
noncomputable def adB:SB:=λ cl Y=>(((aH "s1" Y).bind λ a Y=>(aC.ok [] Y).bind λ b Y=>.ok (a::b) Y).bind λ d Y=>gq cl .enumerate d Y).bind (Om (λ i v Y=>Bg cl (aX "c" v (aX "i" (.int i) Y))) (λ Y=>.ok .next Y))
noncomputable def ai0:SB:=λ cl Y=>(aH "s1" Y).bind λ a Y=>.ok (.ret a) Y
noncomputable def ako:SB:=λ cl Y=>aA (adx cl Y) λ Y=>aA (ady cl Y) λ Y=>aA (adz cl Y) λ Y=>aA (adA cl Y) λ Y=>aA (adB cl Y) λ Y=>aA (ai0 cl Y) λ Y=>.ok .next Y
theorem adC:bY (gR cl 60) (zU 221) (Dl 221) Y=ako cl Y:=by kernel_rfl
noncomputable def ai1:SB:=λ cl Y=>(((aC.ok (.str "..") Y).bind λ d Y=>((aC.ok (.str ".") Y).bind λ e Y=>((aC.ok (.str "") Y).bind λ f Y=>((aC.ok (.str "a") Y).bind λ g Y=>((aC.ok (.str "b") Y).bind λ h Y=>((aC.ok (.str "c") Y).bind λ i Y=>((aC.ok (.str "..") Y).bind λ j Y=>(aC.ok [] Y).bind λ l Y=>.ok (j::l) Y).bind λ m Y=>.ok (i::m) Y).bind λ n Y=>.ok (h::n) Y).bind λ o Y=>.ok (g::o) Y).bind λ p Y=>.ok (f::p) Y).bind λ q Y=>.ok (e::q) Y).bind λ r Y=>.ok (d::r) Y).bind λ s Y=>Y.new (.list s)).bind λ t Y=>.ok (.ret t) Y
noncomputable def amo:SB:=λ cl Y=>aA (ai1 cl Y) λ Y=>.ok .next Y
theorem adD:bY (gR cl 60) (zU 297) (Dl 297) Y=amo cl Y:=by kernel_rfl
noncomputable def adE:SB:=λ cl Y=>((aC.ok (.str "/") Y).bind λ a Y=>((aC.ok (.str "/") Y).bind (cZ cl true "join" λ Y=>(aH "parts" Y).bind λ b Y=>(aC.ok [] Y).bind λ c Y=>.ok (b::c) Y)).bind λ d Y=>ru a d Y).bind λ e Y=>.ok (.ret e) Y
noncomputable def akp:SB:=λ cl Y=>aA (adE cl Y) λ Y=>.ok .next Y
theorem adF:bY (gR cl 60) (zU 304) (Dl 304) Y=akp cl Y:=by kernel_rfl
noncomputable def adG:SB:=λ cl Y=>((aH "folder" Y).bind λ a Y=>(aC.ok .none Y).bind λ b Y=>(aC.ok .none Y).bind λ c Y=>d9 a b c Y).bind λ d Y=>.ok .next (aX "parts" d Y)
noncomputable def Bh:SB:=λ cl Y=>((aH "parts" Y).bind λ a Y=>(aC.ok .none Y).bind λ b Y=>((aC.ok (.int 1) Y).bind (WN .USub)).bind λ c Y=>d9 a b c Y).bind λ d Y=>.ok .next (aX "parts" d Y)
noncomputable def Io:SB:=λ cl Y=>aA (Bh cl Y) λ Y=>.ok .next Y
noncomputable def wN:SB:=λ cl Y=>((aH "parts" Y).bind λ a Y=>(((aH "piece" Y).bind λ b Y=>(aC.ok [] Y).bind λ c Y=>.ok (b::c) Y).bind λ d Y=>Y.new (.list d)).bind λ e Y=>ru a e Y).bind λ f Y=>.ok .next (aX "parts" f Y)
noncomputable def zm:SB:=λ cl Y=>aA (wN cl Y) λ Y=>.ok .next Y
noncomputable def qL:SB:=λ cl Y=>(((aH "piece" Y).bind λ a Y=>(aC.ok (.str "") Y).bind λ b Y=>(bA (vz a b Y) Y).bind λ c Y=>.ok c Y).bind λ d Y=>if !d then .ok d Y else((aH "piece" Y).bind λ e Y=>(aC.ok (.str ".") Y).bind λ f Y=>(bA (vz e f Y) Y).bind λ g Y=>.ok g Y).bind λ h Y=>if !h then .ok h Y else .ok true Y).bind λ i Y=>if i then zm cl Y else .ok .next Y
noncomputable def vU:SB:=λ cl Y=>aA (qL cl Y) λ Y=>.ok .next Y
noncomputable def uL:SB:=λ cl Y=>((aH "piece" Y).bind λ a Y=>(aC.ok (.str "..") Y).bind λ b Y=>(bA (FN a b Y) Y).bind λ c Y=>.ok c Y).bind λ d Y=>if d then Io cl Y else vU cl Y
noncomputable def vV:SB:=λ cl Y=>aA (uL cl Y) λ Y=>.ok .next Y
noncomputable def adH:SB:=λ cl Y=>(aH "pieces" Y).bind (lV (λ v Y=>vV cl (aX "piece" v Y)) (λ Y=>.ok .next Y))
noncomputable def ai2:SB:=λ cl Y=>(aH "parts" Y).bind λ a Y=>.ok (.ret a) Y
noncomputable def akq:SB:=λ cl Y=>aA (adG cl Y) λ Y=>aA (adH cl Y) λ Y=>aA (ai2 cl Y) λ Y=>.ok .next Y
theorem adI:bY (gR cl 60) (zU 311) (Dl 311) Y=akq cl Y:=by kernel_rfl
noncomputable def adJ:SB:=λ cl Y=>((aC.ok [] Y).bind λ a Y=>Y.new (.list a)).bind λ b Y=>.ok .next (aX "parts" b Y)
noncomputable def Bj:SB:=λ cl Y=>((aH "parts" Y).bind λ a Y=>(aC.ok .none Y).bind λ b Y=>((aC.ok (.int 1) Y).bind (WN .USub)).bind λ c Y=>d9 a b c Y).bind λ d Y=>.ok .next (aX "parts" d Y)
noncomputable def zV:SB:=λ cl Y=>aA (Bj cl Y) λ Y=>.ok .next Y
noncomputable def wO:SB:=λ cl Y=>((aH "parts" Y).bind λ a Y=>(((aH "piece" Y).bind λ b Y=>(aC.ok [] Y).bind λ c Y=>.ok (b::c) Y).bind λ d Y=>Y.new (.list d)).bind λ e Y=>ru a e Y).bind λ f Y=>.ok .next (aX "parts" f Y)
noncomputable def zp:SB:=λ cl Y=>aA (wO cl Y) λ Y=>.ok .next Y
noncomputable def qM:SB:=λ cl Y=>(((aH "piece" Y).bind λ a Y=>(aC.ok (.str "") Y).bind λ b Y=>(bA (vz a b Y) Y).bind λ c Y=>.ok c Y).bind λ d Y=>if !d then .ok d Y else((aH "piece" Y).bind λ e Y=>(aC.ok (.str ".") Y).bind λ f Y=>(bA (vz e f Y) Y).bind λ g Y=>.ok g Y).bind λ h Y=>if !h then .ok h Y else .ok true Y).bind λ i Y=>if i then zp cl Y else .ok .next Y
noncomputable def rO:SB:=λ cl Y=>aA (qM cl Y) λ Y=>.ok .next Y
noncomputable def Zy:SB:=λ cl Y=>(((aH "piece" Y).bind λ a Y=>(aC.ok (.str "..") Y).bind λ b Y=>(bA (FN a b Y) Y).bind λ c Y=>.ok c Y).bind λ d Y=>if !d then .ok d Y else((aH "parts" Y).bind λ e Y=>((aC.ok [] Y).bind λ f Y=>Y.new (.list f)).bind λ g Y=>(bA (vz e g Y) Y).bind λ h Y=>.ok h Y).bind λ i Y=>if !i then .ok i Y else(((aH "parts" Y).bind λ j Y=>((aC.ok (.int 1) Y).bind (WN .USub)).bind λ l Y=>jm (iz j l Y) Y).bind λ m Y=>(aC.ok (.str "..") Y).bind λ n Y=>(bA (vz m n Y) Y).bind λ o Y=>.ok o Y).bind λ p Y=>if !p then .ok p Y else .ok true Y).bind λ q Y=>if q then zV cl Y else rO cl Y
noncomputable def Gu:SB:=λ cl Y=>aA (Zy cl Y) λ Y=>.ok .next Y
noncomputable def adK:SB:=λ cl Y=>(aH "pieces" Y).bind (lV (λ v Y=>Gu cl (aX "piece" v Y)) (λ Y=>.ok .next Y))
noncomputable def ai3:SB:=λ cl Y=>(aH "parts" Y).bind λ a Y=>.ok (.ret a) Y
noncomputable def akr:SB:=λ cl Y=>aA (adJ cl Y) λ Y=>aA (adK cl Y) λ Y=>aA (ai3 cl Y) λ Y=>.ok .next Y
theorem adL:bY (gR cl 60) (zU 318) (Dl 318) Y=akr cl Y:=by kernel_rfl
noncomputable def adM:SB:=λ cl Y=>(aC.ok (.int 0) Y).bind λ a Y=>.ok .next (aX "same" a Y)
noncomputable def ZC:SB:=λ cl Y=>(aH "same" Y).bind λ a Y=>(aC.ok (.int 1) Y).bind λ b Y=>(sY .Add a b Y).bind λ c Y=>.ok .next (aX "same" c Y)
noncomputable def Xj:SB:=λ cl Y=>aA (ZC cl Y) λ Y=>.ok .next Y
noncomputable def Vr:SB:=λ cl Y=>if(true:Bool)then nT (λ Y=>((aH "same" Y).bind λ a Y=>(((((aH "one" Y).bind λ b Y=>(aC.ok [] Y).bind λ c Y=>.ok (b::c) Y).bind λ d Y=>zH d Y).bind λ e Y=>((((aH "other" Y).bind λ f Y=>(aC.ok [] Y).bind λ g Y=>.ok (f::g) Y).bind λ h Y=>zH h Y).bind λ i Y=>(aC.ok [] Y).bind λ j Y=>.ok (i::j) Y).bind λ l Y=>.ok (e::l) Y).bind λ m Y=>Qm m Y).bind λ n Y=>(bA (zG .Lt a n Y) Y).bind λ o Y=>.ok o Y).bind λ p Y=>if !p then .ok p Y else(((aH "one" Y).bind λ q Y=>(aH "same" Y).bind λ r Y=>jm (iz q r Y) Y).bind λ s Y=>((aH "other" Y).bind λ t Y=>(aH "same" Y).bind λ u Y=>jm (iz t u Y) Y).bind λ w Y=>(bA (FN s w Y) Y).bind λ x Y=>.ok x Y).bind λ y Y=>if !y then .ok y Y else .ok true Y) (Xj cl) (λ Y=>.ok .next Y) wf Y else .bad
noncomputable def adN:SB:=λ cl Y=>(aH "same" Y).bind λ a Y=>.ok (.ret a) Y
noncomputable def aks:SB:=λ cl Y=>aA (adM cl Y) λ Y=>aA (Vr cl Y) λ Y=>aA (adN cl Y) λ Y=>.ok .next Y
theorem adO:bY (gR cl 60) (zU 325) (Dl 325) Y=aks cl Y:=by kernel_rfl
end
noncomputable section
variable (cl:Nat->List V->St->aC V) (k:Nat) (Y:St)
noncomputable def adP:iB:=λ cl k Y=>(((((aC.ok (.fn 214) Y).bind λ a Y=>((aH "paths" Y).bind λ b Y=>(aC.ok [] Y).bind λ c Y=>.ok (b::c) Y).bind λ d Y=>.ok (a::d) Y).bind λ e Y=>gq cl .map e Y).bind λ f Y=>(aC.ok [] Y).bind λ g Y=>.ok (f::g) Y).bind λ h Y=>gq cl .tuple h Y).bind λ i Y=>.ok .next (aX "paths" i Y)
noncomputable def ZD:iB:=λ cl k Y=>aC.bad
noncomputable def afZ:iB:=λ cl k Y=>aA (ZD cl k Y) λ Y=>.ok .next Y
noncomputable def adQ:iB:=λ cl k Y=>(((aH "paths" Y).bind λ a Y=>bA (cL a Y) Y).bind λ b Y=>.ok (!b) Y).bind λ c Y=>if c then afZ cl k Y else .ok .next Y
noncomputable def ZF:iB:=λ cl k Y=>((aC.bad:aC V)).bind λ a Y=>((Jr (k+0) a Y).bind λ _ Y=>.ok () Y).bind λ _ Y=>.ok .next Y
noncomputable def ZG:iB:=λ cl k Y=>((aC.bad:aC V)).bind λ a Y=>((Jr (k+1) a Y).bind λ _ Y=>.ok () Y).bind λ _ Y=>.ok .next Y
noncomputable def af0:iB:=λ cl k Y=>aA (ZF cl k Y) λ Y=>aA (ZG cl k Y) λ Y=>.ok .next Y
noncomputable def Lk:iB:=λ cl k Y=>(aC.ok (.str "/") Y).bind λ a Y=>((Jr (k+0) a Y).bind λ _ Y=>.ok () Y).bind λ _ Y=>.ok .next Y
noncomputable def Ln:iB:=λ cl k Y=>(aC.ok (.str ".") Y).bind λ a Y=>((Jr (k+1) a Y).bind λ _ Y=>.ok () Y).bind λ _ Y=>.ok .next Y
noncomputable def Xk:iB:=λ cl k Y=>aA (Lk cl k Y) λ Y=>aA (Ln cl k Y) λ Y=>.ok .next Y
noncomputable def adR:iB:=λ cl k Y=>(((((aH "paths" Y).bind λ a Y=>(aC.ok (.int 0) Y).bind λ b Y=>jm (iz a b Y) Y).bind λ c Y=>((aC.ok (.bi .bytes) Y).bind λ d Y=>(aC.ok [] Y).bind λ e Y=>.ok (d::e) Y).bind λ f Y=>.ok (c::f) Y).bind λ g Y=>nR g Y).bind λ h Y=>bA (cL h Y) Y).bind λ i Y=>if i then af0 cl k Y else Xk cl k Y
noncomputable def RB:SCk:=λ cl k Y=>.ok true Y
noncomputable def Bk:SVk:=λ cl k Y=>(aH "path" Y).bind (cZ cl false "split" λ Y=>(uI (k+0) Y).bind λ a Y=>(aC.ok [] Y).bind λ b Y=>.ok (a::b) Y)
noncomputable def Dw:iB:=λ cl k Y=>((aH "paths" Y).bind (kh true "path" (RB cl k) (Bk cl k))).bind λ a Y=>.ok .next (aX "split_paths" a Y)
noncomputable def RD:SCk:=λ cl k Y=>.ok true Y
noncomputable def Bl:SVk:=λ cl k Y=>(aH "p" Y).bind (cZ cl false "startswith" λ Y=>(uI (k+0) Y).bind λ a Y=>(aC.ok [] Y).bind λ b Y=>.ok (a::b) Y)
noncomputable def Bm:iB:=λ cl k Y=>((aH "paths" Y).bind (kh false "p" (RD cl k) (Bl cl k))).bind λ a Y=>((Gs ["isabs"] a Y).bind λ _ Y=>.ok () Y).bind λ _ Y=>.ok .next Y
noncomputable def zW:iB:=λ cl k Y=>aA (Bm cl k Y) λ Y=>.ok .next Y
noncomputable def O6:iB:=λ cl k Y=>aC.bad
noncomputable def Vs:iB:=λ cl k Y=>aA (O6 cl k Y) λ Y=>.ok .next Y
noncomputable def Dy:iB:=λ cl k Y=>Bb (zW cl k) (λ Y=>.ok .next Y) (λ e Y=>if("ValueError"==jl e&&true)then(Vs cl k Y).bindN λ f Y=>.ok f Y else .bad) Y
noncomputable def RG:SCk:=λ cl k Y=>.ok true Y
noncomputable def xU:SCk:=λ cl k Y=>(((aH "c" Y).bind λ a Y=>bA (cL a Y) Y).bind λ b Y=>if !b then .ok b Y else((aH "c" Y).bind λ d Y=>(uI (k+1) Y).bind λ e Y=>(bA (vz d e Y) Y).bind λ f Y=>.ok f Y).bind λ g Y=>if !g then .ok g Y else .ok true Y).bind λ h Y=>if !h then .ok h Y else .ok true Y
noncomputable def Bo:SVk:=λ cl k Y=>aH "c" Y
noncomputable def Ip:SVk:=λ cl k Y=>(aH "s" Y).bind (kh true "c" (xU cl k) (Bo cl k))
noncomputable def Dz:iB:=λ cl k Y=>((aH "split_paths" Y).bind (kh true "s" (RG cl k) (Ip cl k))).bind λ a Y=>.ok .next (aX "split_paths" a Y)
noncomputable def DG:iB:=λ cl k Y=>(((aH "split_paths" Y).bind λ a Y=>(aC.ok [] Y).bind λ b Y=>.ok (a::b) Y).bind λ c Y=>Qm c Y).bind λ d Y=>.ok .next (aX "s1" d Y)
noncomputable def DK:iB:=λ cl k Y=>(((aH "split_paths" Y).bind λ a Y=>(aC.ok [] Y).bind λ b Y=>.ok (a::b) Y).bind λ c Y=>GQ true c Y).bind λ d Y=>.ok .next (aX "s2" d Y)
noncomputable def DN:iB:=λ cl k Y=>(aH "s1" Y).bind λ a Y=>.ok .next (aX "common" a Y)
noncomputable def wQ:iB:=λ cl k Y=>((aH "s1" Y).bind λ a Y=>(aC.ok .none Y).bind λ b Y=>(aH "i" Y).bind λ c Y=>d9 a b c Y).bind λ d Y=>.ok .next (aX "common" d Y)
noncomputable def wR:iB:=λ cl k Y=>.ok .brk Y
noncomputable def zq:iB:=λ cl k Y=>aA (wQ cl k Y) λ Y=>aA (wR cl k Y) λ Y=>.ok .next Y
noncomputable def vW:iB:=λ cl k Y=>((aH "c" Y).bind λ a Y=>((aH "s2" Y).bind λ b Y=>(aH "i" Y).bind λ d Y=>jm (iz b d Y) Y).bind λ e Y=>(bA (vz a e Y) Y).bind λ f Y=>.ok f Y).bind λ g Y=>if g then zq cl k Y else .ok .next Y
noncomputable def mO:iB:=λ cl k Y=>aA (vW cl k Y) λ Y=>.ok .next Y
noncomputable def yD:iB:=λ cl k Y=>(((aH "s1" Y).bind λ a Y=>(aC.ok [] Y).bind λ b Y=>.ok (a::b) Y).bind λ d Y=>gq cl .enumerate d Y).bind (Om (λ i v Y=>mO cl k (aX "c" v (aX "i" (.int i) Y))) (λ Y=>.ok .next Y))
noncomputable def DP:iB:=λ cl k Y=>(((aH "isabs" Y).bind λ a Y=>bA (cL a Y) Y).bind λ b Y=>if b then uI (k+0) Y else(uI (k+0) Y).bind λ c Y=>(aC.ok .none Y).bind λ d Y=>(aC.ok (.int 0) Y).bind λ e Y=>d9 c d e Y).bind λ f Y=>.ok .next (aX "prefix" f Y)
noncomputable def DQ:iB:=λ cl k Y=>((aH "prefix" Y).bind λ a Y=>((uI (k+0) Y).bind (cZ cl true "join" λ Y=>(aH "common" Y).bind λ b Y=>(aC.ok [] Y).bind λ c Y=>.ok (b::c) Y)).bind λ d Y=>ru a d Y).bind λ e Y=>.ok (.ret e) Y
noncomputable def O7:iB:=λ cl k Y=>aA (Dw cl k Y) λ Y=>aA (Dy cl k Y) λ Y=>aA (Dz cl k Y) λ Y=>aA (DG cl k Y) λ Y=>aA (DK cl k Y) λ Y=>aA (DN cl k Y) λ Y=>aA (yD cl k Y) λ Y=>aA (DP cl k Y) λ Y=>aA (DQ cl k Y) λ Y=>.ok .next Y
noncomputable def O8:iB:=λ cl k Y=>Bb (O7 cl k) (λ Y=>.ok .next Y) (λ _ _=>aC.bad) Y
noncomputable def ai4:iB:=λ cl k Y=>aA (adP cl k Y) λ Y=>aA (adQ cl k Y) λ Y=>aA (adR cl k Y) λ Y=>aA (O8 cl k Y) λ Y=>.ok .next Y
theorem adS:bY (gR cl 60) (zU 283) (enC 283 k) Y=ai4 cl k Y:=by kernel_rfl
end
section
variable (o0 o1 o2 o3 o4 o5 o6 o7 o8 o9 o10 o11 o12 o13 o14 o15 o16 o17 o18 o19 o20 o21 o22 o23 o24 o25 o26 o27 o28 o29 o30 o31 o32 o33 o34 o35:Option V) (S:List O) (v:V)
noncomputable def L36:List (Str×Option V):=[("self",o0),("node",o1)]
theorem akt:aH "self" ⟨L36 (some v) o1,S⟩=.ok v ⟨L36 (some v) o1,S⟩:=rfl
theorem anm:aX "self" v ⟨L36 o0 o1,S⟩=⟨L36 (some v) o1,S⟩:=rfl
theorem aku:aH "node" ⟨L36 o0 (some v),S⟩=.ok v ⟨L36 o0 (some v),S⟩:=rfl
theorem ano:aX "node" v ⟨L36 o0 o1,S⟩=⟨L36 o0 (some v),S⟩:=rfl
noncomputable def RJ:List (Str×Option V):=[("self",o0),("graph",o1),("node",o2),("predecessors",o3)]
theorem akv:aH "self" ⟨RJ (some v) o1 o2 o3,S⟩=.ok v ⟨RJ (some v) o1 o2 o3,S⟩:=rfl
theorem anq:aX "self" v ⟨RJ o0 o1 o2 o3,S⟩=⟨RJ (some v) o1 o2 o3,S⟩:=rfl
theorem akx:aH "graph" ⟨RJ o0 (some v) o2 o3,S⟩=.ok v ⟨RJ o0 (some v) o2 o3,S⟩:=rfl
theorem anr:aX "graph" v ⟨RJ o0 o1 o2 o3,S⟩=⟨RJ o0 (some v) o2 o3,S⟩:=rfl
theorem ant:aH "node" ⟨RJ o0 o1 (some v) o3,S⟩=.ok v ⟨RJ o0 o1 (some v) o3,S⟩:=rfl
theorem anu:aX "node" v ⟨RJ o0 o1 o2 o3,S⟩=⟨RJ o0 o1 (some v) o3,S⟩:=rfl
theorem anv:aH "predecessors" ⟨RJ o0 o1 o2 (some v),S⟩=.ok v ⟨RJ o0 o1 o2 (some v),S⟩:=rfl
theorem anw:aX "predecessors" v ⟨RJ o0 o1 o2 o3,S⟩=⟨RJ o0 o1 o2 (some v),S⟩:=rfl
noncomputable def Xl:List (Str×Option V):=[("self",o0),("node",o1),("result",o2)]
theorem agY:aH "self" ⟨Xl (some v) o1 o2,S⟩=.ok v ⟨Xl (some v) o1 o2,S⟩:=rfl
theorem anx:aX "self" v ⟨Xl o0 o1 o2,S⟩=⟨Xl (some v) o1 o2,S⟩:=rfl
theorem agZ:aH "node" ⟨Xl o0 (some v) o2,S⟩=.ok v ⟨Xl o0 (some v) o2,S⟩:=rfl
theorem anz:aX "node" v ⟨Xl o0 o1 o2,S⟩=⟨Xl o0 (some v) o2,S⟩:=rfl
theorem ag0:aH "result" ⟨Xl o0 o1 (some v),S⟩=.ok v ⟨Xl o0 o1 (some v),S⟩:=rfl
theorem ag1:aX "result" v ⟨Xl o0 o1 o2,S⟩=⟨Xl o0 o1 (some v),S⟩:=rfl
noncomputable def zu:List (Str×Option V):=[("self",o0),("node",o1),("predecessors",o2),("nodeinfo",o3),("pred",o4),("pred_info",o5)]
theorem ag2:aH "self" ⟨zu (some v) o1 o2 o3 o4 o5,S⟩=.ok v ⟨zu (some v) o1 o2 o3 o4 o5,S⟩:=rfl
theorem anA:aX "self" v ⟨zu o0 o1 o2 o3 o4 o5,S⟩=⟨zu (some v) o1 o2 o3 o4 o5,S⟩:=rfl
theorem ag3:aH "node" ⟨zu o0 (some v) o2 o3 o4 o5,S⟩=.ok v ⟨zu o0 (some v) o2 o3 o4 o5,S⟩:=rfl
theorem anB:aX "node" v ⟨zu o0 o1 o2 o3 o4 o5,S⟩=⟨zu o0 (some v) o2 o3 o4 o5,S⟩:=rfl
theorem adT:aH "predecessors" ⟨zu o0 o1 (some v) o3 o4 o5,S⟩=.ok v ⟨zu o0 o1 (some v) o3 o4 o5,S⟩:=rfl
theorem anC:aX "predecessors" v ⟨zu o0 o1 o2 o3 o4 o5,S⟩=⟨zu o0 o1 (some v) o3 o4 o5,S⟩:=rfl
theorem aky:aH "nodeinfo" ⟨zu o0 o1 o2 (some v) o4 o5,S⟩=.ok v ⟨zu o0 o1 o2 (some v) o4 o5,S⟩:=rfl
theorem akz:aX "nodeinfo" v ⟨zu o0 o1 o2 o3 o4 o5,S⟩=⟨zu o0 o1 o2 (some v) o4 o5,S⟩:=rfl
theorem akA:aH "pred" ⟨zu o0 o1 o2 o3 (some v) o5,S⟩=.ok v ⟨zu o0 o1 o2 o3 (some v) o5,S⟩:=rfl
theorem akB:aX "pred" v ⟨zu o0 o1 o2 o3 o4 o5,S⟩=⟨zu o0 o1 o2 o3 (some v) o5,S⟩:=rfl
theorem akC:aH "pred_info" ⟨zu o0 o1 o2 o3 o4 (some v),S⟩=.ok v ⟨zu o0 o1 o2 o3 o4 (some v),S⟩:=rfl
theorem akD:aX "pred_info" v ⟨zu o0 o1 o2 o3 o4 o5,S⟩=⟨zu o0 o1 o2 o3 o4 (some v),S⟩:=rfl
noncomputable def Vt:List (Str×Option V):=[("self",o0),("cycle",o1)]
theorem akE:aH "self" ⟨Vt (some v) o1,S⟩=.ok v ⟨Vt (some v) o1,S⟩:=rfl
theorem anD:aX "self" v ⟨Vt o0 o1,S⟩=⟨Vt (some v) o1,S⟩:=rfl
theorem akF:aH "cycle" ⟨Vt o0 (some v),S⟩=.ok v ⟨Vt o0 (some v),S⟩:=rfl
theorem akG:aX "cycle" v ⟨Vt o0 o1,S⟩=⟨Vt o0 (some v),S⟩:=rfl
noncomputable def Fq:List (Str×Option V):=[("self",o0),("result",o1),("n2i",o2),("node",o3)]
theorem ag4:aH "self" ⟨Fq (some v) o1 o2 o3,S⟩=.ok v ⟨Fq (some v) o1 o2 o3,S⟩:=rfl
theorem anE:aX "self" v ⟨Fq o0 o1 o2 o3,S⟩=⟨Fq (some v) o1 o2 o3,S⟩:=rfl
theorem ag5:aH "result" ⟨Fq o0 (some v) o2 o3,S⟩=.ok v ⟨Fq o0 (some v) o2 o3,S⟩:=rfl
theorem akH:aX "result" v ⟨Fq o0 o1 o2 o3,S⟩=⟨Fq o0 (some v) o2 o3,S⟩:=rfl
theorem akI:aH "n2i" ⟨Fq o0 o1 (some v) o3,S⟩=.ok v ⟨Fq o0 o1 (some v) o3,S⟩:=rfl
theorem akJ:aX "n2i" v ⟨Fq o0 o1 o2 o3,S⟩=⟨Fq o0 o1 (some v) o3,S⟩:=rfl
theorem akK:aH "node" ⟨Fq o0 o1 o2 (some v),S⟩=.ok v ⟨Fq o0 o1 o2 (some v),S⟩:=rfl
theorem akL:aX "node" v ⟨Fq o0 o1 o2 o3,S⟩=⟨Fq o0 o1 o2 (some v),S⟩:=rfl
noncomputable def adU:List (Str×Option V):=[("self",o0)]
theorem adV:aH "self" ⟨adU (some v),S⟩=.ok v ⟨adU (some v),S⟩:=rfl
theorem amq:aX "self" v ⟨adU o0,S⟩=⟨adU (some v),S⟩:=rfl
noncomputable def jc:List (Str×Option V):=[("self",o0),("nodes",o1),("n2i",o2),("node",o3),("nodeinfo",o4),("stat",o5),("successor",o6),("successor_info",o7)]
theorem O9:aH "self" ⟨jc (some v) o1 o2 o3 o4 o5 o6 o7,S⟩=.ok v ⟨jc (some v) o1 o2 o3 o4 o5 o6 o7,S⟩:=rfl
theorem amr:aX "self" v ⟨jc o0 o1 o2 o3 o4 o5 o6 o7,S⟩=⟨jc (some v) o1 o2 o3 o4 o5 o6 o7,S⟩:=rfl
theorem ai5:aH "nodes" ⟨jc o0 (some v) o2 o3 o4 o5 o6 o7,S⟩=.ok v ⟨jc o0 (some v) o2 o3 o4 o5 o6 o7,S⟩:=rfl
theorem ams:aX "nodes" v ⟨jc o0 o1 o2 o3 o4 o5 o6 o7,S⟩=⟨jc o0 (some v) o2 o3 o4 o5 o6 o7,S⟩:=rfl
theorem Vu:aH "n2i" ⟨jc o0 o1 (some v) o3 o4 o5 o6 o7,S⟩=.ok v ⟨jc o0 o1 (some v) o3 o4 o5 o6 o7,S⟩:=rfl
theorem ai6:aX "n2i" v ⟨jc o0 o1 o2 o3 o4 o5 o6 o7,S⟩=⟨jc o0 o1 (some v) o3 o4 o5 o6 o7,S⟩:=rfl
theorem ai7:aH "node" ⟨jc o0 o1 o2 (some v) o4 o5 o6 o7,S⟩=.ok v ⟨jc o0 o1 o2 (some v) o4 o5 o6 o7,S⟩:=rfl
theorem ai8:aX "node" v ⟨jc o0 o1 o2 o3 o4 o5 o6 o7,S⟩=⟨jc o0 o1 o2 (some v) o4 o5 o6 o7,S⟩:=rfl
theorem adW:aH "nodeinfo" ⟨jc o0 o1 o2 o3 (some v) o5 o6 o7,S⟩=.ok v ⟨jc o0 o1 o2 o3 (some v) o5 o6 o7,S⟩:=rfl
theorem ai9:aX "nodeinfo" v ⟨jc o0 o1 o2 o3 o4 o5 o6 o7,S⟩=⟨jc o0 o1 o2 o3 (some v) o5 o6 o7,S⟩:=rfl
theorem aja:aH "stat" ⟨jc o0 o1 o2 o3 o4 (some v) o6 o7,S⟩=.ok v ⟨jc o0 o1 o2 o3 o4 (some v) o6 o7,S⟩:=rfl
theorem ajb:aX "stat" v ⟨jc o0 o1 o2 o3 o4 o5 o6 o7,S⟩=⟨jc o0 o1 o2 o3 o4 (some v) o6 o7,S⟩:=rfl
theorem adX:aH "successor" ⟨jc o0 o1 o2 o3 o4 o5 (some v) o7,S⟩=.ok v ⟨jc o0 o1 o2 o3 o4 o5 (some v) o7,S⟩:=rfl
theorem ajc:aX "successor" v ⟨jc o0 o1 o2 o3 o4 o5 o6 o7,S⟩=⟨jc o0 o1 o2 o3 o4 o5 (some v) o7,S⟩:=rfl
theorem adY:aH "successor_info" ⟨jc o0 o1 o2 o3 o4 o5 o6 (some v),S⟩=.ok v ⟨jc o0 o1 o2 o3 o4 o5 o6 (some v),S⟩:=rfl
theorem adZ:aX "successor_info" v ⟨jc o0 o1 o2 o3 o4 o5 o6 o7,S⟩=⟨jc o0 o1 o2 o3 o4 o5 o6 (some v),S⟩:=rfl
noncomputable def mQ:List (Str×Option V):=[("self",o0),("n2i",o1),("stack",o2),("itstack",o3),("seen",o4),("node2stacki",o5),("node",o6)]
theorem ajd:aH "self" ⟨mQ (some v) o1 o2 o3 o4 o5 o6,S⟩=.ok v ⟨mQ (some v) o1 o2 o3 o4 o5 o6,S⟩:=rfl
theorem amt:aX "self" v ⟨mQ o0 o1 o2 o3 o4 o5 o6,S⟩=⟨mQ (some v) o1 o2 o3 o4 o5 o6,S⟩:=rfl
theorem ad0:aH "n2i" ⟨mQ o0 (some v) o2 o3 o4 o5 o6,S⟩=.ok v ⟨mQ o0 (some v) o2 o3 o4 o5 o6,S⟩:=rfl
theorem aje:aX "n2i" v ⟨mQ o0 o1 o2 o3 o4 o5 o6,S⟩=⟨mQ o0 (some v) o2 o3 o4 o5 o6,S⟩:=rfl
theorem DR:aH "stack" ⟨mQ o0 o1 (some v) o3 o4 o5 o6,S⟩=.ok v ⟨mQ o0 o1 (some v) o3 o4 o5 o6,S⟩:=rfl
theorem ajf:aX "stack" v ⟨mQ o0 o1 o2 o3 o4 o5 o6,S⟩=⟨mQ o0 o1 (some v) o3 o4 o5 o6,S⟩:=rfl
theorem Pa:aH "itstack" ⟨mQ o0 o1 o2 (some v) o4 o5 o6,S⟩=.ok v ⟨mQ o0 o1 o2 (some v) o4 o5 o6,S⟩:=rfl
theorem ajg:aX "itstack" v ⟨mQ o0 o1 o2 o3 o4 o5 o6,S⟩=⟨mQ o0 o1 o2 (some v) o4 o5 o6,S⟩:=rfl
theorem Ir:aH "seen" ⟨mQ o0 o1 o2 o3 (some v) o5 o6,S⟩=.ok v ⟨mQ o0 o1 o2 o3 (some v) o5 o6,S⟩:=rfl
theorem ajh:aX "seen" v ⟨mQ o0 o1 o2 o3 o4 o5 o6,S⟩=⟨mQ o0 o1 o2 o3 (some v) o5 o6,S⟩:=rfl
theorem Pb:aH "node2stacki" ⟨mQ o0 o1 o2 o3 o4 (some v) o6,S⟩=.ok v ⟨mQ o0 o1 o2 o3 o4 (some v) o6,S⟩:=rfl
theorem aji:aX "node2stacki" v ⟨mQ o0 o1 o2 o3 o4 o5 o6,S⟩=⟨mQ o0 o1 o2 o3 o4 (some v) o6,S⟩:=rfl
theorem Iu:aH "node" ⟨mQ o0 o1 o2 o3 o4 o5 (some v),S⟩=.ok v ⟨mQ o0 o1 o2 o3 o4 o5 (some v),S⟩:=rfl
theorem ajj:aX "node" v ⟨mQ o0 o1 o2 o3 o4 o5 o6,S⟩=⟨mQ o0 o1 o2 o3 o4 o5 (some v),S⟩:=rfl
noncomputable def dK:List (Str×Option V):=[("script",o0),("sorter",o1),("parts",o2),("number",o3),("more",o4),("own",o5),("rooted",o6),("last",o7),("rest",o8),("pieces",o9),("turn",o10),("name",o11),("goal",o12),("holder",o13),("folder",o14),("found",o15),("same",o16),("back",o17),("ringed",o18),("left",o19),("node",o20),("given",o21)]
theorem amu:aH "script" ⟨dK (some v) o1 o2 o3 o4 o5 o6 o7 o8 o9 o10 o11 o12 o13 o14 o15 o16 o17 o18 o19 o20 o21,S⟩=.ok v ⟨dK (some v) o1 o2 o3 o4 o5 o6 o7 o8 o9 o10 o11 o12 o13 o14 o15 o16 o17 o18 o19 o20 o21,S⟩:=rfl
theorem amv:aX "script" v ⟨dK o0 o1 o2 o3 o4 o5 o6 o7 o8 o9 o10 o11 o12 o13 o14 o15 o16 o17 o18 o19 o20 o21,S⟩=⟨dK (some v) o1 o2 o3 o4 o5 o6 o7 o8 o9 o10 o11 o12 o13 o14 o15 o16 o17 o18 o19 o20 o21,S⟩:=rfl
theorem amw:aH "sorter" ⟨dK o0 (some v) o2 o3 o4 o5 o6 o7 o8 o9 o10 o11 o12 o13 o14 o15 o16 o17 o18 o19 o20 o21,S⟩=.ok v ⟨dK o0 (some v) o2 o3 o4 o5 o6 o7 o8 o9 o10 o11 o12 o13 o14 o15 o16 o17 o18 o19 o20 o21,S⟩:=rfl
theorem amx:aX "sorter" v ⟨dK o0 o1 o2 o3 o4 o5 o6 o7 o8 o9 o10 o11 o12 o13 o14 o15 o16 o17 o18 o19 o20 o21,S⟩=⟨dK o0 (some v) o2 o3 o4 o5 o6 o7 o8 o9 o10 o11 o12 o13 o14 o15 o16 o17 o18 o19 o20 o21,S⟩:=rfl
theorem amy:aH "parts" ⟨dK o0 o1 (some v) o3 o4 o5 o6 o7 o8 o9 o10 o11 o12 o13 o14 o15 o16 o17 o18 o19 o20 o21,S⟩=.ok v ⟨dK o0 o1 (some v) o3 o4 o5 o6 o7 o8 o9 o10 o11 o12 o13 o14 o15 o16 o17 o18 o19 o20 o21,S⟩:=rfl
theorem amz:aX "parts" v ⟨dK o0 o1 o2 o3 o4 o5 o6 o7 o8 o9 o10 o11 o12 o13 o14 o15 o16 o17 o18 o19 o20 o21,S⟩=⟨dK o0 o1 (some v) o3 o4 o5 o6 o7 o8 o9 o10 o11 o12 o13 o14 o15 o16 o17 o18 o19 o20 o21,S⟩:=rfl
theorem amA:aH "number" ⟨dK o0 o1 o2 (some v) o4 o5 o6 o7 o8 o9 o10 o11 o12 o13 o14 o15 o16 o17 o18 o19 o20 o21,S⟩=.ok v ⟨dK o0 o1 o2 (some v) o4 o5 o6 o7 o8 o9 o10 o11 o12 o13 o14 o15 o16 o17 o18 o19 o20 o21,S⟩:=rfl
theorem amB:aX "number" v ⟨dK o0 o1 o2 o3 o4 o5 o6 o7 o8 o9 o10 o11 o12 o13 o14 o15 o16 o17 o18 o19 o20 o21,S⟩=⟨dK o0 o1 o2 (some v) o4 o5 o6 o7 o8 o9 o10 o11 o12 o13 o14 o15 o16 o17 o18 o19 o20 o21,S⟩:=rfl
theorem amC:aH "more" ⟨dK o0 o1 o2 o3 (some v) o5 o6 o7 o8 o9 o10 o11 o12 o13 o14 o15 o16 o17 o18 o19 o20 o21,S⟩=.ok v ⟨dK o0 o1 o2 o3 (some v) o5 o6 o7 o8 o9 o10 o11 o12 o13 o14 o15 o16 o17 o18 o19 o20 o21,S⟩:=rfl
theorem amD:aX "more" v ⟨dK o0 o1 o2 o3 o4 o5 o6 o7 o8 o9 o10 o11 o12 o13 o14 o15 o16 o17 o18 o19 o20 o21,S⟩=⟨dK o0 o1 o2 o3 (some v) o5 o6 o7 o8 o9 o10 o11 o12 o13 o14 o15 o16 o17 o18 o19 o20 o21,S⟩:=rfl
theorem amE:aH "own" ⟨dK o0 o1 o2 o3 o4 (some v) o6 o7 o8 o9 o10 o11 o12 o13 o14 o15 o16 o17 o18 o19 o20 o21,S⟩=.ok v ⟨dK o0 o1 o2 o3 o4 (some v) o6 o7 o8 o9 o10 o11 o12 o13 o14 o15 o16 o17 o18 o19 o20 o21,S⟩:=rfl
theorem amF:aX "own" v ⟨dK o0 o1 o2 o3 o4 o5 o6 o7 o8 o9 o10 o11 o12 o13 o14 o15 o16 o17 o18 o19 o20 o21,S⟩=⟨dK o0 o1 o2 o3 o4 (some v) o6 o7 o8 o9 o10 o11 o12 o13 o14 o15 o16 o17 o18 o19 o20 o21,S⟩:=rfl
theorem amG:aH "rooted" ⟨dK o0 o1 o2 o3 o4 o5 (some v) o7 o8 o9 o10 o11 o12 o13 o14 o15 o16 o17 o18 o19 o20 o21,S⟩=.ok v ⟨dK o0 o1 o2 o3 o4 o5 (some v) o7 o8 o9 o10 o11 o12 o13 o14 o15 o16 o17 o18 o19 o20 o21,S⟩:=rfl
theorem amH:aX "rooted" v ⟨dK o0 o1 o2 o3 o4 o5 o6 o7 o8 o9 o10 o11 o12 o13 o14 o15 o16 o17 o18 o19 o20 o21,S⟩=⟨dK o0 o1 o2 o3 o4 o5 (some v) o7 o8 o9 o10 o11 o12 o13 o14 o15 o16 o17 o18 o19 o20 o21,S⟩:=rfl
theorem amI:aH "last" ⟨dK o0 o1 o2 o3 o4 o5 o6 (some v) o8 o9 o10 o11 o12 o13 o14 o15 o16 o17 o18 o19 o20 o21,S⟩=.ok v ⟨dK o0 o1 o2 o3 o4 o5 o6 (some v) o8 o9 o10 o11 o12 o13 o14 o15 o16 o17 o18 o19 o20 o21,S⟩:=rfl
theorem amJ:aX "last" v ⟨dK o0 o1 o2 o3 o4 o5 o6 o7 o8 o9 o10 o11 o12 o13 o14 o15 o16 o17 o18 o19 o20 o21,S⟩=⟨dK o0 o1 o2 o3 o4 o5 o6 (some v) o8 o9 o10 o11 o12 o13 o14 o15 o16 o17 o18 o19 o20 o21,S⟩:=rfl
theorem amK:aH "rest" ⟨dK o0 o1 o2 o3 o4 o5 o6 o7 (some v) o9 o10 o11 o12 o13 o14 o15 o16 o17 o18 o19 o20 o21,S⟩=.ok v ⟨dK o0 o1 o2 o3 o4 o5 o6 o7 (some v) o9 o10 o11 o12 o13 o14 o15 o16 o17 o18 o19 o20 o21,S⟩:=rfl
theorem amL:aX "rest" v ⟨dK o0 o1 o2 o3 o4 o5 o6 o7 o8 o9 o10 o11 o12 o13 o14 o15 o16 o17 o18 o19 o20 o21,S⟩=⟨dK o0 o1 o2 o3 o4 o5 o6 o7 (some v) o9 o10 o11 o12 o13 o14 o15 o16 o17 o18 o19 o20 o21,S⟩:=rfl
theorem amM:aH "pieces" ⟨dK o0 o1 o2 o3 o4 o5 o6 o7 o8 (some v) o10 o11 o12 o13 o14 o15 o16 o17 o18 o19 o20 o21,S⟩=.ok v ⟨dK o0 o1 o2 o3 o4 o5 o6 o7 o8 (some v) o10 o11 o12 o13 o14 o15 o16 o17 o18 o19 o20 o21,S⟩:=rfl
theorem amN:aX "pieces" v ⟨dK o0 o1 o2 o3 o4 o5 o6 o7 o8 o9 o10 o11 o12 o13 o14 o15 o16 o17 o18 o19 o20 o21,S⟩=⟨dK o0 o1 o2 o3 o4 o5 o6 o7 o8 (some v) o10 o11 o12 o13 o14 o15 o16 o17 o18 o19 o20 o21,S⟩:=rfl
theorem alh:aH "turn" ⟨dK o0 o1 o2 o3 o4 o5 o6 o7 o8 o9 (some v) o11 o12 o13 o14 o15 o16 o17 o18 o19 o20 o21,S⟩=.ok v ⟨dK o0 o1 o2 o3 o4 o5 o6 o7 o8 o9 (some v) o11 o12 o13 o14 o15 o16 o17 o18 o19 o20 o21,S⟩:=rfl
theorem ali:aX "turn" v ⟨dK o0 o1 o2 o3 o4 o5 o6 o7 o8 o9 o10 o11 o12 o13 o14 o15 o16 o17 o18 o19 o20 o21,S⟩=⟨dK o0 o1 o2 o3 o4 o5 o6 o7 o8 o9 (some v) o11 o12 o13 o14 o15 o16 o17 o18 o19 o20 o21,S⟩:=rfl
theorem alj:aH "name" ⟨dK o0 o1 o2 o3 o4 o5 o6 o7 o8 o9 o10 (some v) o12 o13 o14 o15 o16 o17 o18 o19 o20 o21,S⟩=.ok v ⟨dK o0 o1 o2 o3 o4 o5 o6 o7 o8 o9 o10 (some v) o12 o13 o14 o15 o16 o17 o18 o19 o20 o21,S⟩:=rfl
theorem alk:aX "name" v ⟨dK o0 o1 o2 o3 o4 o5 o6 o7 o8 o9 o10 o11 o12 o13 o14 o15 o16 o17 o18 o19 o20 o21,S⟩=⟨dK o0 o1 o2 o3 o4 o5 o6 o7 o8 o9 o10 (some v) o12 o13 o14 o15 o16 o17 o18 o19 o20 o21,S⟩:=rfl
theorem alm:aH "goal" ⟨dK o0 o1 o2 o3 o4 o5 o6 o7 o8 o9 o10 o11 (some v) o13 o14 o15 o16 o17 o18 o19 o20 o21,S⟩=.ok v ⟨dK o0 o1 o2 o3 o4 o5 o6 o7 o8 o9 o10 o11 (some v) o13 o14 o15 o16 o17 o18 o19 o20 o21,S⟩:=rfl
theorem aln:aX "goal" v ⟨dK o0 o1 o2 o3 o4 o5 o6 o7 o8 o9 o10 o11 o12 o13 o14 o15 o16 o17 o18 o19 o20 o21,S⟩=⟨dK o0 o1 o2 o3 o4 o5 o6 o7 o8 o9 o10 o11 (some v) o13 o14 o15 o16 o17 o18 o19 o20 o21,S⟩:=rfl
theorem alo:aH "holder" ⟨dK o0 o1 o2 o3 o4 o5 o6 o7 o8 o9 o10 o11 o12 (some v) o14 o15 o16 o17 o18 o19 o20 o21,S⟩=.ok v ⟨dK o0 o1 o2 o3 o4 o5 o6 o7 o8 o9 o10 o11 o12 (some v) o14 o15 o16 o17 o18 o19 o20 o21,S⟩:=rfl
theorem alp:aX "holder" v ⟨dK o0 o1 o2 o3 o4 o5 o6 o7 o8 o9 o10 o11 o12 o13 o14 o15 o16 o17 o18 o19 o20 o21,S⟩=⟨dK o0 o1 o2 o3 o4 o5 o6 o7 o8 o9 o10 o11 o12 (some v) o14 o15 o16 o17 o18 o19 o20 o21,S⟩:=rfl
theorem alq:aH "folder" ⟨dK o0 o1 o2 o3 o4 o5 o6 o7 o8 o9 o10 o11 o12 o13 (some v) o15 o16 o17 o18 o19 o20 o21,S⟩=.ok v ⟨dK o0 o1 o2 o3 o4 o5 o6 o7 o8 o9 o10 o11 o12 o13 (some v) o15 o16 o17 o18 o19 o20 o21,S⟩:=rfl
theorem alr:aX "folder" v ⟨dK o0 o1 o2 o3 o4 o5 o6 o7 o8 o9 o10 o11 o12 o13 o14 o15 o16 o17 o18 o19 o20 o21,S⟩=⟨dK o0 o1 o2 o3 o4 o5 o6 o7 o8 o9 o10 o11 o12 o13 (some v) o15 o16 o17 o18 o19 o20 o21,S⟩:=rfl
theorem als:aH "found" ⟨dK o0 o1 o2 o3 o4 o5 o6 o7 o8 o9 o10 o11 o12 o13 o14 (some v) o16 o17 o18 o19 o20 o21,S⟩=.ok v ⟨dK o0 o1 o2 o3 o4 o5 o6 o7 o8 o9 o10 o11 o12 o13 o14 (some v) o16 o17 o18 o19 o20 o21,S⟩:=rfl
theorem alu:aX "found" v ⟨dK o0 o1 o2 o3 o4 o5 o6 o7 o8 o9 o10 o11 o12 o13 o14 o15 o16 o17 o18 o19 o20 o21,S⟩=⟨dK o0 o1 o2 o3 o4 o5 o6 o7 o8 o9 o10 o11 o12 o13 o14 (some v) o16 o17 o18 o19 o20 o21,S⟩:=rfl
theorem alv:aH "same" ⟨dK o0 o1 o2 o3 o4 o5 o6 o7 o8 o9 o10 o11 o12 o13 o14 o15 (some v) o17 o18 o19 o20 o21,S⟩=.ok v ⟨dK o0 o1 o2 o3 o4 o5 o6 o7 o8 o9 o10 o11 o12 o13 o14 o15 (some v) o17 o18 o19 o20 o21,S⟩:=rfl
theorem alw:aX "same" v ⟨dK o0 o1 o2 o3 o4 o5 o6 o7 o8 o9 o10 o11 o12 o13 o14 o15 o16 o17 o18 o19 o20 o21,S⟩=⟨dK o0 o1 o2 o3 o4 o5 o6 o7 o8 o9 o10 o11 o12 o13 o14 o15 (some v) o17 o18 o19 o20 o21,S⟩:=rfl
theorem alx:aH "back" ⟨dK o0 o1 o2 o3 o4 o5 o6 o7 o8 o9 o10 o11 o12 o13 o14 o15 o16 (some v) o18 o19 o20 o21,S⟩=.ok v ⟨dK o0 o1 o2 o3 o4 o5 o6 o7 o8 o9 o10 o11 o12 o13 o14 o15 o16 (some v) o18 o19 o20 o21,S⟩:=rfl
theorem aly:aX "back" v ⟨dK o0 o1 o2 o3 o4 o5 o6 o7 o8 o9 o10 o11 o12 o13 o14 o15 o16 o17 o18 o19 o20 o21,S⟩=⟨dK o0 o1 o2 o3 o4 o5 o6 o7 o8 o9 o10 o11 o12 o13 o14 o15 o16 (some v) o18 o19 o20 o21,S⟩:=rfl
theorem alz:aH "ringed" ⟨dK o0 o1 o2 o3 o4 o5 o6 o7 o8 o9 o10 o11 o12 o13 o14 o15 o16 o17 (some v) o19 o20 o21,S⟩=.ok v ⟨dK o0 o1 o2 o3 o4 o5 o6 o7 o8 o9 o10 o11 o12 o13 o14 o15 o16 o17 (some v) o19 o20 o21,S⟩:=rfl
theorem alA:aX "ringed" v ⟨dK o0 o1 o2 o3 o4 o5 o6 o7 o8 o9 o10 o11 o12 o13 o14 o15 o16 o17 o18 o19 o20 o21,S⟩=⟨dK o0 o1 o2 o3 o4 o5 o6 o7 o8 o9 o10 o11 o12 o13 o14 o15 o16 o17 (some v) o19 o20 o21,S⟩:=rfl
theorem alB:aH "left" ⟨dK o0 o1 o2 o3 o4 o5 o6 o7 o8 o9 o10 o11 o12 o13 o14 o15 o16 o17 o18 (some v) o20 o21,S⟩=.ok v ⟨dK o0 o1 o2 o3 o4 o5 o6 o7 o8 o9 o10 o11 o12 o13 o14 o15 o16 o17 o18 (some v) o20 o21,S⟩:=rfl
theorem alC:aX "left" v ⟨dK o0 o1 o2 o3 o4 o5 o6 o7 o8 o9 o10 o11 o12 o13 o14 o15 o16 o17 o18 o19 o20 o21,S⟩=⟨dK o0 o1 o2 o3 o4 o5 o6 o7 o8 o9 o10 o11 o12 o13 o14 o15 o16 o17 o18 (some v) o20 o21,S⟩:=rfl
theorem alD:aH "node" ⟨dK o0 o1 o2 o3 o4 o5 o6 o7 o8 o9 o10 o11 o12 o13 o14 o15 o16 o17 o18 o19 (some v) o21,S⟩=.ok v ⟨dK o0 o1 o2 o3 o4 o5 o6 o7 o8 o9 o10 o11 o12 o13 o14 o15 o16 o17 o18 o19 (some v) o21,S⟩:=rfl
theorem alE:aX "node" v ⟨dK o0 o1 o2 o3 o4 o5 o6 o7 o8 o9 o10 o11 o12 o13 o14 o15 o16 o17 o18 o19 o20 o21,S⟩=⟨dK o0 o1 o2 o3 o4 o5 o6 o7 o8 o9 o10 o11 o12 o13 o14 o15 o16 o17 o18 o19 (some v) o21,S⟩:=rfl
theorem alF:aH "given" ⟨dK o0 o1 o2 o3 o4 o5 o6 o7 o8 o9 o10 o11 o12 o13 o14 o15 o16 o17 o18 o19 o20 (some v),S⟩=.ok v ⟨dK o0 o1 o2 o3 o4 o5 o6 o7 o8 o9 o10 o11 o12 o13 o14 o15 o16 o17 o18 o19 o20 (some v),S⟩:=rfl
theorem alG:aX "given" v ⟨dK o0 o1 o2 o3 o4 o5 o6 o7 o8 o9 o10 o11 o12 o13 o14 o15 o16 o17 o18 o19 o20 o21,S⟩=⟨dK o0 o1 o2 o3 o4 o5 o6 o7 o8 o9 o10 o11 o12 o13 o14 o15 o16 o17 o18 o19 o20 (some v),S⟩:=rfl
end
noncomputable section
variable (cl:Nat->List V->St->aC V) (Y:St)
noncomputable def ag6:SB:=λ cl Y=>(aH "node" Y).bind λ a Y=>(((aH "self" Y).bind λ b Y=>(dz b "node" a Y).bind λ _ Y=>.ok () Y).bind λ _ Y=>.ok () Y).bind λ _ Y=>.ok .next Y
noncomputable def ag7:SB:=λ cl Y=>(aC.ok (.int 0) Y).bind λ a Y=>(((aH "self" Y).bind λ b Y=>(dz b "npredecessors" a Y).bind λ _ Y=>.ok () Y).bind λ _ Y=>.ok () Y).bind λ _ Y=>.ok .next Y
noncomputable def ag8:SB:=λ cl Y=>((aC.ok [] Y).bind λ a Y=>Y.new (.list a)).bind λ b Y=>(((aH "self" Y).bind λ c Y=>(dz c "successors" b Y).bind λ _ Y=>.ok () Y).bind λ _ Y=>.ok () Y).bind λ _ Y=>.ok .next Y
noncomputable def B36:SB:=λ cl Y=>aA (ag6 cl Y) λ Y=>aA (ag7 cl Y) λ Y=>aA (ag8 cl Y) λ Y=>.ok .next Y
theorem af3:bY (gR cl 60) (zU 36) (Dl 36) Y=B36 cl Y:=by kernel_rfl
noncomputable def ag9:SB:=λ cl Y=>(Y.new (.dict [] 0)).bind λ a Y=>(((aH "self" Y).bind λ b Y=>(dz b "_node2info" a Y).bind λ _ Y=>.ok () Y).bind λ _ Y=>.ok () Y).bind λ _ Y=>.ok .next Y
noncomputable def aha:SB:=λ cl Y=>(aC.ok (.none) Y).bind λ a Y=>(((aH "self" Y).bind λ b Y=>(dz b "_ready_nodes" a Y).bind λ _ Y=>.ok () Y).bind λ _ Y=>.ok () Y).bind λ _ Y=>.ok .next Y
noncomputable def ahb:SB:=λ cl Y=>(aC.ok (.int 0) Y).bind λ a Y=>(((aH "self" Y).bind λ b Y=>(dz b "_npassedout" a Y).bind λ _ Y=>.ok () Y).bind λ _ Y=>.ok () Y).bind λ _ Y=>.ok .next Y
noncomputable def ahc:SB:=λ cl Y=>(aC.ok (.int 0) Y).bind λ a Y=>(((aH "self" Y).bind λ b Y=>(dz b "_nfinished" a Y).bind λ _ Y=>.ok () Y).bind λ _ Y=>.ok () Y).bind λ _ Y=>.ok .next Y
noncomputable def RK:SB:=λ cl Y=>((aC.bad:aC V)).bind λ _ Y=>.ok .next Y
noncomputable def ZJ:SB:=λ cl Y=>aA (RK cl Y) λ Y=>.ok .next Y
noncomputable def ad1:SB:=λ cl Y=>((aH "graph" Y).bind (cZ cl true "items" λ Y=>.ok [] Y)).bind (Om (λ i v Y=>ZJ cl (aX "predecessors" v (aX "node" (.int i) Y))) (λ Y=>.ok .next Y))
noncomputable def ajk:SB:=λ cl Y=>aA (ad1 cl Y) λ Y=>.ok .next Y
noncomputable def ahd:SB:=λ cl Y=>((aH "graph" Y).bind λ a Y=>(aC.ok (.none) Y).bind λ b Y=>(bA (zG .IsNot a b Y) Y).bind λ c Y=>.ok c Y).bind λ d Y=>if d then ajk cl Y else .ok .next Y
noncomputable def B73:SB:=λ cl Y=>aA (ag9 cl Y) λ Y=>aA (aha cl Y) λ Y=>aA (ahb cl Y) λ Y=>aA (ahc cl Y) λ Y=>aA (ahd cl Y) λ Y=>.ok .next Y
theorem af4:bY (gR cl 60) (zU 73) (Dl 73) Y=B73 cl Y:=by kernel_rfl
noncomputable def RL:SB:=λ cl Y=>(((aH "node" Y).bind λ a Y=>(aC.ok [] Y).bind λ b Y=>.ok (a::b) Y).bind λ c Y=>cl 40 c Y).bind λ d Y=>((((aH "self" Y).bind λ e Y=>fu e "_node2info" Y).bind λ f Y=>(aH "node" Y).bind λ g Y=>(p7 f g d Y).bind λ _ Y=>.ok () Y).bind λ _ Y=>(aC.ok () (aX "result" d Y)).bind λ _ Y=>.ok () Y).bind λ _ Y=>.ok .next Y
noncomputable def ad2:SB:=λ cl Y=>aA (RL cl Y) λ Y=>.ok .next Y
noncomputable def ad3:SB:=λ cl Y=>(((((aH "self" Y).bind λ a Y=>fu a "_node2info" Y).bind (cZ cl true "get" λ Y=>(aH "node" Y).bind λ b Y=>(aC.ok [] Y).bind λ c Y=>.ok (b::c) Y)).bind λ d Y=>.ok d (aX "result" d Y)).bind λ e Y=>(aC.ok (.none) Y).bind λ f Y=>(bA (Tq e f) Y).bind λ g Y=>.ok g Y).bind λ h Y=>if h then ad2 cl Y else .ok .next Y
noncomputable def ad4:SB:=λ cl Y=>(aH "result" Y).bind λ a Y=>.ok (.ret a) Y
noncomputable def B80:SB:=λ cl Y=>aA (ad3 cl Y) λ Y=>aA (ad4 cl Y) λ Y=>.ok .next Y
theorem Xm:bY (gR cl 60) (zU 80) (Dl 80) Y=B80 cl Y:=by kernel_rfl
noncomputable def ad5:SB:=λ cl Y=>aC.bad
noncomputable def ajl:SB:=λ cl Y=>aA (ad5 cl Y) λ Y=>.ok .next Y
noncomputable def ahe:SB:=λ cl Y=>(((aH "self" Y).bind λ a Y=>fu a "_ready_nodes" Y).bind λ b Y=>(aC.ok (.none) Y).bind λ c Y=>(bA (zG .IsNot b c Y) Y).bind λ d Y=>.ok d Y).bind λ e Y=>if e then ajl cl Y else .ok .next Y
noncomputable def ahf:SB:=λ cl Y=>((aH "self" Y).bind (cZ cl true "_get_nodeinfo" λ Y=>(aH "node" Y).bind λ a Y=>(aC.ok [] Y).bind λ b Y=>.ok (a::b) Y)).bind λ c Y=>.ok .next (aX "nodeinfo" c Y)
noncomputable def ahg:SB:=λ cl Y=>(aH "nodeinfo" Y).bind λ a Y=>(fu a "npredecessors" Y).bind λ b Y=>(((aH "predecessors" Y).bind λ c Y=>(aC.ok [] Y).bind λ d Y=>.ok (c::d) Y).bind λ e Y=>zH e Y).bind λ f Y=>(sY .Add b f Y).bind λ g Y=>(dz a "npredecessors" g Y).bind λ _ Y=>.ok .next Y
noncomputable def RM:SB:=λ cl Y=>((aH "self" Y).bind (cZ cl true "_get_nodeinfo" λ Y=>(aH "pred" Y).bind λ a Y=>(aC.ok [] Y).bind λ b Y=>.ok (a::b) Y)).bind λ c Y=>.ok .next (aX "pred_info" c Y)
noncomputable def RN:SB:=λ cl Y=>(((aH "pred_info" Y).bind λ a Y=>fu a "successors" Y).bind (cZ cl true "append" λ Y=>(aH "node" Y).bind λ b Y=>(aC.ok [] Y).bind λ c Y=>.ok (b::c) Y)).bind λ _ Y=>.ok .next Y
noncomputable def Iv:SB:=λ cl Y=>aA (RM cl Y) λ Y=>aA (RN cl Y) λ Y=>.ok .next Y
noncomputable def Xn:SB:=λ cl Y=>(aH "predecessors" Y).bind (lV (λ v Y=>Iv cl (aX "pred" v Y)) (λ Y=>.ok .next Y))
noncomputable def B87:SB:=λ cl Y=>aA (ahe cl Y) λ Y=>aA (ahf cl Y) λ Y=>aA (ahg cl Y) λ Y=>aA (Xn cl Y) λ Y=>.ok .next Y
theorem af5:bY (gR cl 60) (zU 87) (Dl 87) Y=B87 cl Y:=by kernel_rfl
noncomputable def ad6:SB:=λ cl Y=>aC.bad
noncomputable def ajm:SB:=λ cl Y=>aA (ad6 cl Y) λ Y=>.ok .next Y
noncomputable def ad7:SB:=λ cl Y=>(((aH "self" Y).bind λ a Y=>fu a "_ready_nodes" Y).bind λ b Y=>(aC.ok (.none) Y).bind λ c Y=>(bA (zG .IsNot b c Y) Y).bind λ d Y=>.ok d Y).bind λ e Y=>if e then ajm cl Y else .ok .next Y
noncomputable def Pg:SC:=λ cl Y=>(((aH "i" Y).bind λ a Y=>fu a "npredecessors" Y).bind λ b Y=>(aC.ok (.int 0) Y).bind λ c Y=>(bA (FN b c Y) Y).bind λ d Y=>.ok d Y).bind λ e Y=>if !e then .ok e Y else .ok true Y
noncomputable def Vv:SV:=λ cl Y=>(aH "i" Y).bind λ a Y=>fu a "node" Y
noncomputable def ad8:SB:=λ cl Y=>((((aH "self" Y).bind λ a Y=>fu a "_node2info" Y).bind (cZ cl true "values" λ Y=>.ok [] Y)).bind (kh true "i" (Pg cl) (Vv cl))).bind λ b Y=>(((aH "self" Y).bind λ c Y=>(dz c "_ready_nodes" b Y).bind λ _ Y=>.ok () Y).bind λ _ Y=>.ok () Y).bind λ _ Y=>.ok .next Y
noncomputable def ad9:SB:=λ cl Y=>((aH "self" Y).bind (cZ cl true "_find_cycle" λ Y=>.ok [] Y)).bind λ a Y=>.ok .next (aX "cycle" a Y)
noncomputable def RP:SB:=λ cl Y=>((aC.ok (.str "nodes are in a cycle") Y).bind λ b Y=>((aH "cycle" Y).bind λ c Y=>(aC.ok [] Y).bind λ d Y=>.ok (c::d) Y).bind λ e Y=>.ok (b::e) Y).bind λ _ Y=>aC.exc .cyc Y
noncomputable def aea:SB:=λ cl Y=>aA (RP cl Y) λ Y=>.ok .next Y
noncomputable def ahh:SB:=λ cl Y=>((aH "cycle" Y).bind λ a Y=>bA (cL a Y) Y).bind λ b Y=>if b then aea cl Y else .ok .next Y
noncomputable def B92:SB:=λ cl Y=>aA (ad7 cl Y) λ Y=>aA (ad8 cl Y) λ Y=>aA (ad9 cl Y) λ Y=>aA (ahh cl Y) λ Y=>.ok .next Y
theorem af6:bY (gR cl 60) (zU 92) (Dl 92) Y=B92 cl Y:=by kernel_rfl
noncomputable def aeb:SB:=λ cl Y=>aC.bad
noncomputable def ajn:SB:=λ cl Y=>aA (aeb cl Y) λ Y=>.ok .next Y
noncomputable def ahi:SB:=λ cl Y=>(((aH "self" Y).bind λ a Y=>fu a "_ready_nodes" Y).bind λ b Y=>(aC.ok (.none) Y).bind λ c Y=>(bA (Tq b c) Y).bind λ d Y=>.ok d Y).bind λ e Y=>if e then ajn cl Y else .ok .next Y
noncomputable def ahj:SB:=λ cl Y=>((((aH "self" Y).bind λ a Y=>fu a "_ready_nodes" Y).bind λ b Y=>(aC.ok [] Y).bind λ c Y=>.ok (b::c) Y).bind λ d Y=>gq cl .tuple d Y).bind λ e Y=>.ok .next (aX "result" e Y)
noncomputable def ahk:SB:=λ cl Y=>((aH "self" Y).bind λ a Y=>fu a "_node2info" Y).bind λ b Y=>.ok .next (aX "n2i" b Y)
noncomputable def RQ:SB:=λ cl Y=>(aC.ok (.int (-1)) Y).bind λ a Y=>((((aH "n2i" Y).bind λ b Y=>(aH "node" Y).bind λ c Y=>jm (iz b c Y) Y).bind λ d Y=>(dz d "npredecessors" a Y).bind λ _ Y=>.ok () Y).bind λ _ Y=>.ok () Y).bind λ _ Y=>.ok .next Y
noncomputable def Ph:SB:=λ cl Y=>aA (RQ cl Y) λ Y=>.ok .next Y
noncomputable def aec:SB:=λ cl Y=>(aH "result" Y).bind (lV (λ v Y=>Ph cl (aX "node" v Y)) (λ Y=>.ok .next Y))
noncomputable def ahl:SB:=λ cl Y=>(((aH "self" Y).bind λ a Y=>fu a "_ready_nodes" Y).bind (cZ cl true "clear" λ Y=>.ok [] Y)).bind λ _ Y=>.ok .next Y
noncomputable def ahm:SB:=λ cl Y=>(aH "self" Y).bind λ a Y=>(fu a "_npassedout" Y).bind λ b Y=>(((aH "result" Y).bind λ c Y=>(aC.ok [] Y).bind λ d Y=>.ok (c::d) Y).bind λ e Y=>zH e Y).bind λ f Y=>(sY .Add b f Y).bind λ g Y=>(dz a "_npassedout" g Y).bind λ _ Y=>.ok .next Y
noncomputable def ahn:SB:=λ cl Y=>(aH "result" Y).bind λ a Y=>.ok (.ret a) Y
noncomputable def B99:SB:=λ cl Y=>aA (ahi cl Y) λ Y=>aA (ahj cl Y) λ Y=>aA (ahk cl Y) λ Y=>aA (aec cl Y) λ Y=>aA (ahl cl Y) λ Y=>aA (ahm cl Y) λ Y=>aA (ahn cl Y) λ Y=>.ok .next Y
theorem af7:bY (gR cl 60) (zU 99) (Dl 99) Y=B99 cl Y:=by kernel_rfl
noncomputable def ZK:SB:=λ cl Y=>aC.bad
noncomputable def af8:SB:=λ cl Y=>aA (ZK cl Y) λ Y=>.ok .next Y
noncomputable def Vw:SB:=λ cl Y=>(((aH "self" Y).bind λ a Y=>fu a "_ready_nodes" Y).bind λ b Y=>(aC.ok (.none) Y).bind λ c Y=>(bA (Tq b c) Y).bind λ d Y=>.ok d Y).bind λ e Y=>if e then af8 cl Y else .ok .next Y
noncomputable def Vx:SB:=λ cl Y=>((((aH "self" Y).bind λ a Y=>fu a "_nfinished" Y).bind λ b Y=>((aH "self" Y).bind λ c Y=>fu c "_npassedout" Y).bind λ d Y=>(bA (zG .Lt b d Y) Y).bind λ e Y=>.ok (V.bool e) Y).bind λ f Y=>(bA (cL f Y) Y).bind λ g Y=>if g then .ok f Y else(((aH "self" Y).bind λ h Y=>fu h "_ready_nodes" Y).bind λ i Y=>(aC.ok [] Y).bind λ j Y=>.ok (i::j) Y).bind λ l Y=>gq cl .bool l Y).bind λ m Y=>.ok (.ret m) Y
noncomputable def ajo:SB:=λ cl Y=>aA (Vw cl Y) λ Y=>aA (Vx cl Y) λ Y=>.ok .next Y
theorem aed:bY (gR cl 60) (zU 106) (Dl 106) Y=ajo cl Y:=by kernel_rfl
noncomputable def ZL:SB:=λ cl Y=>aC.bad
noncomputable def af9:SB:=λ cl Y=>aA (ZL cl Y) λ Y=>.ok .next Y
noncomputable def aee:SB:=λ cl Y=>(((aH "self" Y).bind λ a Y=>fu a "_ready_nodes" Y).bind λ b Y=>(aC.ok (.none) Y).bind λ c Y=>(bA (Tq b c) Y).bind λ d Y=>.ok d Y).bind λ e Y=>if e then af9 cl Y else .ok .next Y
noncomputable def aef:SB:=λ cl Y=>((aH "self" Y).bind λ a Y=>fu a "_node2info" Y).bind λ b Y=>.ok .next (aX "n2i" b Y)
noncomputable def Pj:SB:=λ cl Y=>aC.bad
noncomputable def Vy:SB:=λ cl Y=>aA (Pj cl Y) λ Y=>.ok .next Y
noncomputable def Lp:SB:=λ cl Y=>((((aH "n2i" Y).bind (cZ cl true "get" λ Y=>(aH "node" Y).bind λ a Y=>(aC.ok [] Y).bind λ b Y=>.ok (a::b) Y)).bind λ c Y=>.ok c (aX "nodeinfo" c Y)).bind λ d Y=>(aC.ok (.none) Y).bind λ e Y=>(bA (Tq d e) Y).bind λ f Y=>.ok f Y).bind λ g Y=>if g then Vy cl Y else .ok .next Y
noncomputable def Lq:SB:=λ cl Y=>((aH "nodeinfo" Y).bind λ a Y=>fu a "npredecessors" Y).bind λ b Y=>.ok .next (aX "stat" b Y)
noncomputable def Gb:SB:=λ cl Y=>aC.bad
noncomputable def JK:SB:=λ cl Y=>aA (Gb cl Y) λ Y=>.ok .next Y
noncomputable def zX:SB:=λ cl Y=>aC.bad
noncomputable def DW:SB:=λ cl Y=>aA (zX cl Y) λ Y=>.ok .next Y
noncomputable def zY:SB:=λ cl Y=>aC.bad
noncomputable def DX:SB:=λ cl Y=>aA (zY cl Y) λ Y=>.ok .next Y
noncomputable def Gd:SB:=λ cl Y=>((aH "stat" Y).bind λ a Y=>(aC.ok (.int (-2)) Y).bind λ b Y=>(bA (FN a b Y) Y).bind λ c Y=>.ok c Y).bind λ d Y=>if d then DW cl Y else DX cl Y
noncomputable def JL:SB:=λ cl Y=>aA (Gd cl Y) λ Y=>.ok .next Y
noncomputable def Pk:SB:=λ cl Y=>((aH "stat" Y).bind λ a Y=>(aC.ok (.int 0) Y).bind λ b Y=>(bA (zG .GtE a b Y) Y).bind λ c Y=>.ok c Y).bind λ d Y=>if d then JK cl Y else JL cl Y
noncomputable def Vz:SB:=λ cl Y=>aA (Pk cl Y) λ Y=>.ok .next Y
noncomputable def Lr:SB:=λ cl Y=>((aH "stat" Y).bind λ a Y=>(aC.ok (.int (-1)) Y).bind λ b Y=>(bA (vz a b Y) Y).bind λ c Y=>.ok c Y).bind λ d Y=>if d then Vz cl Y else .ok .next Y
noncomputable def Ls:SB:=λ cl Y=>(aC.ok (.int (-2)) Y).bind λ a Y=>(((aH "nodeinfo" Y).bind λ b Y=>(dz b "npredecessors" a Y).bind λ _ Y=>.ok () Y).bind λ _ Y=>.ok () Y).bind λ _ Y=>.ok .next Y
noncomputable def vX:SB:=λ cl Y=>((aH "n2i" Y).bind λ a Y=>(aH "successor" Y).bind λ b Y=>jm (iz a b Y) Y).bind λ c Y=>.ok .next (aX "successor_info" c Y)
noncomputable def vY:SB:=λ cl Y=>(aH "successor_info" Y).bind λ a Y=>(fu a "npredecessors" Y).bind λ b Y=>(aC.ok (.int 1) Y).bind λ c Y=>(sY .Sub b c Y).bind λ d Y=>(dz a "npredecessors" d Y).bind λ _ Y=>.ok .next Y
noncomputable def wU:SB:=λ cl Y=>(((aH "self" Y).bind λ a Y=>fu a "_ready_nodes" Y).bind (cZ cl true "append" λ Y=>(aH "successor" Y).bind λ b Y=>(aC.ok [] Y).bind λ c Y=>.ok (b::c) Y)).bind λ _ Y=>.ok .next Y
noncomputable def zx:SB:=λ cl Y=>aA (wU cl Y) λ Y=>.ok .next Y
noncomputable def vZ:SB:=λ cl Y=>(((aH "successor_info" Y).bind λ a Y=>fu a "npredecessors" Y).bind λ b Y=>(aC.ok (.int 0) Y).bind λ c Y=>(bA (FN b c Y) Y).bind λ d Y=>.ok d Y).bind λ e Y=>if e then zx cl Y else .ok .next Y
noncomputable def mR:SB:=λ cl Y=>aA (vX cl Y) λ Y=>aA (vY cl Y) λ Y=>aA (vZ cl Y) λ Y=>.ok .next Y
noncomputable def DY:SB:=λ cl Y=>((aH "nodeinfo" Y).bind λ a Y=>fu a "successors" Y).bind (lV (λ v Y=>mR cl (aX "successor" v Y)) (λ Y=>.ok .next Y))
noncomputable def Lw:SB:=λ cl Y=>(aH "self" Y).bind λ a Y=>(fu a "_nfinished" Y).bind λ b Y=>(aC.ok (.int 1) Y).bind λ c Y=>(sY .Add b c Y).bind λ d Y=>(dz a "_nfinished" d Y).bind λ _ Y=>.ok .next Y
noncomputable def Bp:SB:=λ cl Y=>aA (Lp cl Y) λ Y=>aA (Lq cl Y) λ Y=>aA (Lr cl Y) λ Y=>aA (Ls cl Y) λ Y=>aA (DY cl Y) λ Y=>aA (Lw cl Y) λ Y=>.ok .next Y
noncomputable def VB:SB:=λ cl Y=>(aH "nodes" Y).bind (lV (λ v Y=>Bp cl (aX "node" v Y)) (λ Y=>.ok .next Y))
noncomputable def akM:SB:=λ cl Y=>aA (aee cl Y) λ Y=>aA (aef cl Y) λ Y=>aA (VB cl Y) λ Y=>.ok .next Y
theorem aeg:bY (gR cl 60) (zU 120) (Dl 120) Y=akM cl Y:=by kernel_rfl
noncomputable def VD:SB:=λ cl Y=>((aH "self" Y).bind λ a Y=>fu a "_node2info" Y).bind λ b Y=>.ok .next (aX "n2i" b Y)
noncomputable def VF:SB:=λ cl Y=>((aC.ok [] Y).bind λ a Y=>Y.new (.list a)).bind λ b Y=>.ok .next (aX "stack" b Y)
noncomputable def VG:SB:=λ cl Y=>((aC.ok [] Y).bind λ a Y=>Y.new (.list a)).bind λ b Y=>.ok .next (aX "itstack" b Y)
noncomputable def VH:SB:=λ cl Y=>((aC.ok [] Y).bind λ a Y=>gq cl .set a Y).bind λ b Y=>.ok .next (aX "seen" b Y)
noncomputable def VJ:SB:=λ cl Y=>(Y.new (.dict [] 0)).bind λ a Y=>.ok .next (aX "node2stacki" a Y)
noncomputable def Bq:SB:=λ cl Y=>.ok .cont Y
noncomputable def Iw:SB:=λ cl Y=>aA (Bq cl Y) λ Y=>.ok .next Y
noncomputable def yE:SB:=λ cl Y=>((aH "node" Y).bind λ a Y=>(aH "seen" Y).bind λ b Y=>(bA (inM a b Y) Y).bind λ c Y=>.ok c Y).bind λ d Y=>if d then Iw cl Y else .ok .next Y
noncomputable def rP:SB:=λ cl Y=>(((aH "stack" Y).bind λ a Y=>((aH "node2stacki" Y).bind λ b Y=>(aH "node" Y).bind λ c Y=>jm (iz b c Y) Y).bind λ d Y=>(aC.ok .none Y).bind λ e Y=>d9 a d e Y).bind λ f Y=>(((aH "node" Y).bind λ g Y=>(aC.ok [] Y).bind λ h Y=>.ok (g::h) Y).bind λ i Y=>Y.new (.list i)).bind λ j Y=>ru f j Y).bind λ l Y=>.ok (.ret l) Y
noncomputable def uM:SB:=λ cl Y=>aA (rP cl Y) λ Y=>.ok .next Y
noncomputable def qz:SB:=λ cl Y=>((aH "node" Y).bind λ a Y=>(aH "node2stacki" Y).bind λ b Y=>(bA (inM a b Y) Y).bind λ c Y=>.ok c Y).bind λ d Y=>if d then uM cl Y else .ok .next Y
noncomputable def t8:SB:=λ cl Y=>aA (qz cl Y) λ Y=>.ok .next Y
noncomputable def wV:SB:=λ cl Y=>((aH "seen" Y).bind (cZ cl true "add" λ Y=>(aH "node" Y).bind λ a Y=>(aC.ok [] Y).bind λ b Y=>.ok (a::b) Y)).bind λ _ Y=>.ok .next Y
noncomputable def wW:SB:=λ cl Y=>((aH "itstack" Y).bind (cZ cl true "append" λ Y=>((((((aH "n2i" Y).bind λ a Y=>(aH "node" Y).bind λ b Y=>jm (iz a b Y) Y).bind λ c Y=>fu c "successors" Y).bind λ d Y=>(aC.ok [] Y).bind λ e Y=>.ok (d::e) Y).bind λ f Y=>gq cl .iter f Y).bind λ g Y=>fu g "__next__" Y).bind λ h Y=>(aC.ok [] Y).bind λ i Y=>.ok (h::i) Y)).bind λ _ Y=>.ok .next Y
noncomputable def wX:SB:=λ cl Y=>(((aH "stack" Y).bind λ a Y=>(aC.ok [] Y).bind λ b Y=>.ok (a::b) Y).bind λ c Y=>zH c Y).bind λ d Y=>(((aH "node2stacki" Y).bind λ e Y=>(aH "node" Y).bind λ f Y=>(p7 e f d Y).bind λ _ Y=>.ok () Y).bind λ _ Y=>.ok () Y).bind λ _ Y=>.ok .next Y
noncomputable def wY:SB:=λ cl Y=>((aH "stack" Y).bind (cZ cl true "append" λ Y=>(aH "node" Y).bind λ a Y=>(aC.ok [] Y).bind λ b Y=>.ok (a::b) Y)).bind λ _ Y=>.ok .next Y
noncomputable def zy:SB:=λ cl Y=>aA (wV cl Y) λ Y=>aA (wW cl Y) λ Y=>aA (wX cl Y) λ Y=>aA (wY cl Y) λ Y=>.ok .next Y
noncomputable def jw:SB:=λ cl Y=>((aH "node" Y).bind λ a Y=>(aH "seen" Y).bind λ b Y=>(bA (inM a b Y) Y).bind λ c Y=>.ok c Y).bind λ d Y=>if d then t8 cl Y else zy cl Y
noncomputable def mU:SB:=λ cl Y=>(((aH "itstack" Y).bind λ a Y=>((aC.ok (.int 1) Y).bind (WN .USub)).bind λ b Y=>jm (iz a b Y) Y).bind λ c Y=>(aC.ok [] Y).bind λ d Y=>Ig cl true c d Y).bind λ e Y=>.ok .next (aX "node" e Y)
noncomputable def rQ:SB:=λ cl Y=>.ok .brk Y
noncomputable def lG:SB:=λ cl Y=>aA (mU cl Y) λ Y=>aA (rQ cl Y) λ Y=>.ok .next Y
noncomputable def rR:SB:=λ cl Y=>(aH "node2stacki" Y).bind λ a Y=>((aH "stack" Y).bind (cZ cl false "pop" λ Y=>.ok [] Y)).bind λ b Y=>(Ab a b Y).bind λ _ Y=>.ok .next Y
noncomputable def rU:SB:=λ cl Y=>((aH "itstack" Y).bind (cZ cl false "pop" λ Y=>.ok [] Y)).bind λ _ Y=>.ok .next Y
noncomputable def pC:SB:=λ cl Y=>aA (rR cl Y) λ Y=>aA (rU cl Y) λ Y=>.ok .next Y
noncomputable def mD:SB:=λ cl Y=>Bb (lG cl) (λ Y=>.ok .next Y) (λ e Y=>if("StopIteration"==jl e&&true)then(pC cl Y).bindN λ f Y=>.ok f Y else .bad) Y
noncomputable def uc:SB:=λ cl Y=>aA (mD cl Y) λ Y=>.ok .next Y
noncomputable def Ge:SB:=λ cl Y=>.ok .brk Y
noncomputable def JM:SB:=λ cl Y=>aA (Ge cl Y) λ Y=>.ok .next Y
noncomputable def wg:SB:=λ cl Y=>if(true:Bool)then nT (λ Y=>(aH "stack" Y).bind λ a Y=>bA (cL a Y) Y) (uc cl) (JM cl) wf Y else .bad
noncomputable def VK:SB:=λ cl Y=>aA (jw cl Y) λ Y=>aA (wg cl Y) λ Y=>.ok .next Y
noncomputable def yF:SB:=λ cl Y=>if(true:Bool)then nT (λ Y=>(aC.ok (.bool true) Y).bind λ a Y=>bA (cL a Y) Y) (VK cl) (λ Y=>.ok .next Y) wf Y else .bad
noncomputable def wi:SB:=λ cl Y=>aA (yE cl Y) λ Y=>aA (yF cl Y) λ Y=>.ok .next Y
noncomputable def VL:SB:=λ cl Y=>(aH "n2i" Y).bind (lV (λ v Y=>wi cl (aX "node" v Y)) (λ Y=>.ok .next Y))
noncomputable def ajp:SB:=λ cl Y=>(aC.ok (.none) Y).bind λ a Y=>.ok (.ret a) Y
noncomputable def akN:SB:=λ cl Y=>aA (VD cl Y) λ Y=>aA (VF cl Y) λ Y=>aA (VG cl Y) λ Y=>aA (VH cl Y) λ Y=>aA (VJ cl Y) λ Y=>aA (VL cl Y) λ Y=>aA (ajp cl Y) λ Y=>.ok .next Y
theorem aeh:bY (gR cl 60) (zU 127) (Dl 127) Y=akN cl Y:=by kernel_rfl
end
noncomputable section
variable (cl:Nat->List V->St->aC V) (k:Nat) (Y:St)
noncomputable def VN:iB:=λ cl k Y=>(Y.new (.dict [] 0)).bind λ a Y=>((Jr (k+0) a Y).bind λ _ Y=>.ok () Y).bind λ _ Y=>.ok .next Y
noncomputable def VP:iB:=λ cl k Y=>((aC.ok [] Y).bind λ a Y=>cl 137 a Y).bind λ b Y=>.ok .next (aX "sorter" b Y)
noncomputable def Lx:iB:=λ cl k Y=>((aC.ok [] Y).bind λ a Y=>Y.new (.list a)).bind λ b Y=>(((uI (k+0) Y).bind λ c Y=>(((aH "parts" Y).bind λ d Y=>(aC.ok [] Y).bind λ e Y=>.ok (d::e) Y).bind λ f Y=>cl 304 f Y).bind λ g Y=>(p7 c g b Y).bind λ _ Y=>.ok () Y).bind λ _ Y=>.ok () Y).bind λ _ Y=>.ok .next Y
noncomputable def Ly:iB:=λ cl k Y=>((aH "sorter" Y).bind (cZ cl true "add" λ Y=>(((aH "parts" Y).bind λ a Y=>(aC.ok [] Y).bind λ b Y=>.ok (a::b) Y).bind λ c Y=>cl 304 c Y).bind λ d Y=>(aC.ok [] Y).bind λ e Y=>.ok (d::e) Y)).bind λ _ Y=>.ok .next Y
noncomputable def Br:iB:=λ cl k Y=>aA (Lx cl k Y) λ Y=>aA (Ly cl k Y) λ Y=>.ok .next Y
noncomputable def Pn:iB:=λ cl k Y=>(aC.ok (.ref 0) Y).bind (lV (λ v Y=>Br cl k (aX "parts" v Y)) (λ Y=>.ok .next Y))
noncomputable def uN:iB:=λ cl k Y=>(((aH "number" Y).bind λ a Y=>(aC.ok [] Y).bind λ b Y=>.ok (a::b) Y).bind λ c Y=>ahD c Y).bind λ d Y=>.ok .next (aX "more" d Y)
noncomputable def uO:iB:=λ cl k Y=>((aC.ok (.ref 0) Y).bind λ a Y=>((aH "more" Y).bind λ b Y=>(aC.ok (.int 6) Y).bind λ c Y=>nQ .Mod b c Y).bind λ d Y=>jm (iz a d Y) Y).bind λ e Y=>.ok .next (aX "own" e Y)
noncomputable def uP:iB:=λ cl k Y=>((((aH "more" Y).bind λ a Y=>(aC.ok (.int 6) Y).bind λ b Y=>nQ .FloorDiv a b Y).bind λ c Y=>(aC.ok (.int 2) Y).bind λ d Y=>nQ .Mod c d Y).bind λ e Y=>(aC.ok (.int 1) Y).bind λ f Y=>(bA (FN e f Y) Y).bind λ g Y=>.ok (V.bool g) Y).bind λ h Y=>.ok .next (aX "rooted" h Y)
noncomputable def uQ:iB:=λ cl k Y=>((aC.ok (.str "xyzw") Y).bind λ a Y=>(((aH "more" Y).bind λ b Y=>(aC.ok (.int 12) Y).bind λ c Y=>nQ .FloorDiv b c Y).bind λ d Y=>(aC.ok (.int 4) Y).bind λ e Y=>nQ .Mod d e Y).bind λ f Y=>jm (iz a f Y) Y).bind λ g Y=>.ok .next (aX "last" g Y)
noncomputable def uR:iB:=λ cl k Y=>((aH "more" Y).bind λ a Y=>(aC.ok (.int 240) Y).bind λ b Y=>nQ .FloorDiv a b Y).bind λ c Y=>.ok .next (aX "rest" c Y)
noncomputable def yG:iB:=λ cl k Y=>((aC.ok [] Y).bind λ a Y=>Y.new (.list a)).bind λ b Y=>.ok .next (aX "pieces" b Y)
noncomputable def Bs:iB:=λ cl k Y=>((aH "pieces" Y).bind (cZ cl true "append" λ Y=>(((aC.ok [] Y).bind λ a Y=>cl 297 a Y).bind λ b Y=>((aH "rest" Y).bind λ c Y=>(aC.ok (.int 7) Y).bind λ d Y=>nQ .Mod c d Y).bind λ e Y=>jm (iz b e Y) Y).bind λ f Y=>(aC.ok [] Y).bind λ g Y=>.ok (f::g) Y)).bind λ _ Y=>.ok .next Y
noncomputable def Bt:iB:=λ cl k Y=>((aH "rest" Y).bind λ a Y=>(aC.ok (.int 7) Y).bind λ b Y=>nQ .FloorDiv a b Y).bind λ c Y=>.ok .next (aX "rest" c Y)
noncomputable def wj:iB:=λ cl k Y=>aA (Bs cl k Y) λ Y=>aA (Bt cl k Y) λ Y=>.ok .next Y
noncomputable def uT:iB:=λ cl k Y=>(((((aH "more" Y).bind λ a Y=>(aC.ok (.int 48) Y).bind λ b Y=>nQ .FloorDiv a b Y).bind λ c Y=>(aC.ok (.int 5) Y).bind λ d Y=>nQ .Mod c d Y).bind λ e Y=>(aC.ok [] Y).bind λ f Y=>.ok (e::f) Y).bind λ g Y=>CK g Y).bind (lV (λ v Y=>wj cl k (aX "turn" v Y)) (λ Y=>.ok .next Y))
noncomputable def uU:iB:=λ cl k Y=>((aH "pieces" Y).bind (cZ cl true "append" λ Y=>(aH "last" Y).bind λ a Y=>(aC.ok [] Y).bind λ b Y=>.ok (a::b) Y)).bind λ _ Y=>.ok .next Y
noncomputable def pD:iB:=λ cl k Y=>((aC.ok (.str "/") Y).bind (cZ cl true "join" λ Y=>((((aH "rooted" Y).bind λ a Y=>bA (cL a Y) Y).bind λ b Y=>if b then((aC.ok (.str "") Y).bind λ c Y=>((aC.ok (.str ".") Y).bind λ d Y=>(aC.ok [] Y).bind λ e Y=>.ok (d::e) Y).bind λ f Y=>.ok (c::f) Y).bind λ g Y=>Y.new (.list g)else((aC.ok (.str ".") Y).bind λ h Y=>(aC.ok [] Y).bind λ i Y=>.ok (h::i) Y).bind λ j Y=>Y.new (.list j)).bind λ l Y=>(aH "pieces" Y).bind λ m Y=>ru l m Y).bind λ n Y=>(aC.ok [] Y).bind λ o Y=>.ok (n::o) Y)).bind λ p Y=>.ok .next (aX "name" p Y)
noncomputable def pF:iB:=λ cl k Y=>(((((aH "rooted" Y).bind λ a Y=>bA (cL a Y) Y).bind λ b Y=>if b then(aC.ok [] Y).bind λ c Y=>Y.new (.list c)else(aH "own" Y).bind λ d Y=>(aC.ok .none Y).bind λ e Y=>((aC.ok (.int 1) Y).bind (WN .USub)).bind λ f Y=>d9 d e f Y).bind λ g Y=>((aH "pieces" Y).bind λ h Y=>(aC.ok [] Y).bind λ i Y=>.ok (h::i) Y).bind λ j Y=>.ok (g::j) Y).bind λ l Y=>cl 311 l Y).bind λ m Y=>.ok .next (aX "goal" m Y)
noncomputable def pG:iB:=λ cl k Y=>(((aH "own" Y).bind λ a Y=>(aC.ok [] Y).bind λ b Y=>.ok (a::b) Y).bind λ c Y=>cl 304 c Y).bind λ d Y=>.ok .next (aX "holder" d Y)
noncomputable def pH:iB:=λ cl k Y=>(((aH "holder" Y).bind λ a Y=>(aC.ok [] Y).bind λ b Y=>.ok (a::b) Y).bind λ c Y=>cl 256 c Y).bind λ d Y=>.ok .next (aX "folder" d Y)
noncomputable def pI:iB:=λ cl k Y=>(((((aH "folder" Y).bind λ a Y=>((aH "name" Y).bind λ b Y=>(aC.ok [] Y).bind λ c Y=>.ok (b::c) Y).bind λ d Y=>.ok (a::d) Y).bind λ e Y=>cl 242 e Y).bind λ f Y=>(aC.ok [] Y).bind λ g Y=>.ok (f::g) Y).bind λ h Y=>cl 263 h Y).bind λ i Y=>.ok .next (aX "found" i Y)
noncomputable def JN:iB:=λ cl k Y=>(aC.ok (.bool false) Y).bind λ a Y=>.ok (.ret a) Y
noncomputable def RT:iB:=λ cl k Y=>aA (JN cl k Y) λ Y=>.ok .next Y
noncomputable def mV:iB:=λ cl k Y=>(((aH "folder" Y).bind λ a Y=>((((aH "own" Y).bind λ b Y=>(aC.ok .none Y).bind λ c Y=>((aC.ok (.int 1) Y).bind (WN .USub)).bind λ d Y=>d9 b c d Y).bind λ e Y=>(aC.ok [] Y).bind λ f Y=>.ok (e::f) Y).bind λ g Y=>cl 304 g Y).bind λ h Y=>(bA (vz a h Y) Y).bind λ i Y=>.ok i Y).bind λ j Y=>if j then .ok j Y else((aH "found" Y).bind λ l Y=>(((aH "goal" Y).bind λ m Y=>(aC.ok [] Y).bind λ n Y=>.ok (m::n) Y).bind λ o Y=>cl 304 o Y).bind λ p Y=>(bA (vz l p Y) Y).bind λ q Y=>.ok q Y).bind λ r Y=>if r then .ok r Y else .ok false Y).bind λ s Y=>if s then RT cl k Y else .ok .next Y
noncomputable def JP:iB:=λ cl k Y=>(aC.ok (.bool false) Y).bind λ a Y=>.ok (.ret a) Y
noncomputable def RV:iB:=λ cl k Y=>aA (JP cl k Y) λ Y=>.ok .next Y
noncomputable def kW:iB:=λ cl k Y=>((((aH "rooted" Y).bind λ a Y=>bA (cL a Y) Y).bind λ b Y=>.ok (!b) Y).bind λ c Y=>if !c then .ok c Y else((((aH "name" Y).bind λ d Y=>(aC.ok [] Y).bind λ e Y=>.ok (d::e) Y).bind λ f Y=>cl 263 f Y).bind λ g Y=>((aC.ok (.str "/") Y).bind (cZ cl true "join" λ Y=>(((aH "pieces" Y).bind λ h Y=>(aC.ok [] Y).bind λ i Y=>.ok (h::i) Y).bind λ j Y=>cl 318 j Y).bind λ l Y=>(aC.ok [] Y).bind λ m Y=>.ok (l::m) Y)).bind λ n Y=>(bA (vz g n Y) Y).bind λ o Y=>.ok o Y).bind λ p Y=>if !p then .ok p Y else .ok true Y).bind λ q Y=>if q then RV cl k Y else .ok .next Y
noncomputable def mW:iB:=λ cl k Y=>((((aH "own" Y).bind λ a Y=>(aC.ok .none Y).bind λ b Y=>((aC.ok (.int 1) Y).bind (WN .USub)).bind λ c Y=>d9 a b c Y).bind λ d Y=>((aH "goal" Y).bind λ e Y=>(aC.ok [] Y).bind λ f Y=>.ok (e::f) Y).bind λ g Y=>.ok (d::g) Y).bind λ h Y=>cl 325 h Y).bind λ i Y=>.ok .next (aX "same" i Y)
noncomputable def mX:iB:=λ cl k Y=>(((((aH "folder" Y).bind λ a Y=>((aH "name" Y).bind λ b Y=>(aC.ok [] Y).bind λ c Y=>.ok (b::c) Y).bind λ d Y=>.ok (a::d) Y).bind λ e Y=>cl 242 e Y).bind λ f Y=>((((aH "folder" Y).bind λ g Y=>((aC.ok (.str ".") Y).bind λ h Y=>(aC.ok [] Y).bind λ i Y=>.ok (h::i) Y).bind λ j Y=>.ok (g::j) Y).bind λ l Y=>cl 242 l Y).bind λ m Y=>(aC.ok [] Y).bind λ n Y=>.ok (m::n) Y).bind λ o Y=>.ok (f::o) Y).bind λ p Y=>cl 278 p Y).bind λ q Y=>.ok .next (aX "back" q Y)
noncomputable def JQ:iB:=λ cl k Y=>(aC.ok (.bool false) Y).bind λ a Y=>.ok (.ret a) Y
noncomputable def RW:iB:=λ cl k Y=>aA (JQ cl k Y) λ Y=>.ok .next Y
noncomputable def mY:iB:=λ cl k Y=>(((aH "back" Y).bind λ a Y=>((aC.ok (.str "/") Y).bind (cZ cl true "join" λ Y=>(((((aC.ok (.str "..") Y).bind λ b Y=>(aC.ok [] Y).bind λ c Y=>.ok (b::c) Y).bind λ d Y=>Y.new (.list d)).bind λ e Y=>(((((aH "own" Y).bind λ f Y=>(aC.ok [] Y).bind λ g Y=>.ok (f::g) Y).bind λ h Y=>zH h Y).bind λ i Y=>(aC.ok (.int 1) Y).bind λ j Y=>nQ .Sub i j Y).bind λ l Y=>(aH "same" Y).bind λ m Y=>nQ .Sub l m Y).bind λ n Y=>GJ e n Y).bind λ o Y=>((aH "goal" Y).bind λ p Y=>(aH "same" Y).bind λ q Y=>(aC.ok .none Y).bind λ r Y=>d9 p q r Y).bind λ s Y=>ru o s Y).bind λ t Y=>(aC.ok [] Y).bind λ u Y=>.ok (t::u) Y)).bind λ w Y=>(bA (vz a w Y) Y).bind λ x Y=>.ok x Y).bind λ y Y=>if y then .ok y Y else((((((aH "folder" Y).bind λ z Y=>((aH "back" Y).bind λ A Y=>(aC.ok [] Y).bind λ B Y=>.ok (A::B) Y).bind λ C Y=>.ok (z::C) Y).bind λ D Y=>cl 242 D Y).bind λ E Y=>(aC.ok [] Y).bind λ F Y=>.ok (E::F) Y).bind λ G Y=>cl 263 G Y).bind λ H Y=>(aH "found" Y).bind λ I Y=>(bA (vz H I Y) Y).bind λ J Y=>.ok J Y).bind λ K Y=>if K then .ok K Y else .ok false Y).bind λ L Y=>if L then RW cl k Y else .ok .next Y
noncomputable def JR:iB:=λ cl k Y=>(aC.ok (.bool false) Y).bind λ a Y=>.ok (.ret a) Y
noncomputable def RX:iB:=λ cl k Y=>aA (JR cl k Y) λ Y=>.ok .next Y
noncomputable def mZ:iB:=λ cl k Y=>((((((aH "holder" Y).bind λ a Y=>((aH "found" Y).bind λ b Y=>(aC.ok [] Y).bind λ c Y=>.ok (b::c) Y).bind λ d Y=>.ok (a::d) Y).bind λ e Y=>Y.new (.list e)).bind λ f Y=>(aC.ok [] Y).bind λ g Y=>.ok (f::g) Y).bind λ h Y=>cl 283 h Y).bind λ i Y=>((((aH "own" Y).bind λ j Y=>(aC.ok .none Y).bind λ l Y=>(((aH "own" Y).bind λ m Y=>((aH "goal" Y).bind λ n Y=>(aC.ok [] Y).bind λ o Y=>.ok (n::o) Y).bind λ p Y=>.ok (m::p) Y).bind λ q Y=>cl 325 q Y).bind λ r Y=>d9 j l r Y).bind λ s Y=>(aC.ok [] Y).bind λ t Y=>.ok (s::t) Y).bind λ u Y=>cl 304 u Y).bind λ w Y=>(bA (vz i w Y) Y).bind λ x Y=>.ok x Y).bind λ y Y=>if y then RX cl k Y else .ok .next Y
noncomputable def zA:iB:=λ cl k Y=>((aH "sorter" Y).bind (cZ cl true "add" λ Y=>(aH "holder" Y).bind λ a Y=>((aH "found" Y).bind λ b Y=>(aC.ok [] Y).bind λ c Y=>.ok (b::c) Y).bind λ d Y=>.ok (a::d) Y)).bind λ _ Y=>.ok .next Y
noncomputable def jM:iB:=λ cl k Y=>aA (zA cl k Y) λ Y=>.ok .next Y
noncomputable def kZ:iB:=λ cl k Y=>(((((aH "number" Y).bind λ a Y=>(aC.ok (.int 0) Y).bind λ b Y=>(bA (zG .Lt a b Y) Y).bind λ c Y=>.ok c Y).bind λ d Y=>if d then .ok (.int 2) Y else .ok (.int 1) Y).bind λ e Y=>(aC.ok [] Y).bind λ f Y=>.ok (e::f) Y).bind λ g Y=>CK g Y).bind (lV (λ v Y=>jM cl k (aX "turn" v Y)) (λ Y=>.ok .next Y))
noncomputable def rW:iB:=λ cl k Y=>(((uI (k+0) Y).bind λ a Y=>(aH "holder" Y).bind λ b Y=>jm (iz a b Y) Y).bind (cZ cl true "append" λ Y=>(aH "found" Y).bind λ c Y=>(aC.ok [] Y).bind λ d Y=>.ok (c::d) Y)).bind λ _ Y=>.ok .next Y
noncomputable def zB:iB:=λ cl k Y=>((aC.ok [] Y).bind λ a Y=>Y.new (.list a)).bind λ b Y=>(((uI (k+0) Y).bind λ c Y=>(aH "found" Y).bind λ d Y=>(p7 c d b Y).bind λ _ Y=>.ok () Y).bind λ _ Y=>.ok () Y).bind λ _ Y=>.ok .next Y
noncomputable def Ft:iB:=λ cl k Y=>aA (zB cl k Y) λ Y=>.ok .next Y
noncomputable def pJ:iB:=λ cl k Y=>((aH "found" Y).bind λ a Y=>(uI (k+0) Y).bind λ b Y=>(bA (XJ a b Y) Y).bind λ c Y=>.ok c Y).bind λ d Y=>if d then Ft cl k Y else .ok .next Y
noncomputable def Bu:iB:=λ cl k Y=>aA (uN cl k Y) λ Y=>aA (uO cl k Y) λ Y=>aA (uP cl k Y) λ Y=>aA (uQ cl k Y) λ Y=>aA (uR cl k Y) λ Y=>aA (yG cl k Y) λ Y=>aA (uT cl k Y) λ Y=>aA (uU cl k Y) λ Y=>aA (pD cl k Y) λ Y=>aA (pF cl k Y) λ Y=>aA (pG cl k Y) λ Y=>aA (pH cl k Y) λ Y=>aA (pI cl k Y) λ Y=>aA (mV cl k Y) λ Y=>aA (kW cl k Y) λ Y=>aA (mW cl k Y) λ Y=>aA (mX cl k Y) λ Y=>aA (mY cl k Y) λ Y=>aA (mZ cl k Y) λ Y=>aA (kZ cl k Y) λ Y=>aA (rW cl k Y) λ Y=>aA (pJ cl k Y) λ Y=>.ok .next Y
noncomputable def V0:iB:=λ cl k Y=>(((aH "script" Y).bind λ a Y=>(aC.ok .none Y).bind λ b Y=>(aC.ok (.int 10) Y).bind λ c Y=>d9 a b c Y).bind λ d Y=>(((aC.ok (.int 49) Y).bind λ e Y=>((aC.ok (.int 1254) Y).bind λ f Y=>((aC.ok (.int 365729) Y).bind λ g Y=>(aC.ok [] Y).bind λ h Y=>.ok (g::h) Y).bind λ i Y=>.ok (f::i) Y).bind λ j Y=>.ok (e::j) Y).bind λ l Y=>Y.new (.list l)).bind λ m Y=>ru d m Y).bind (lV (λ v Y=>Bu cl k (aX "number" v Y)) (λ Y=>.ok .next Y))
noncomputable def V1:iB:=λ cl k Y=>(aC.ok (.bool false) Y).bind λ a Y=>.ok .next (aX "ringed" a Y)
noncomputable def Ea:iB:=λ cl k Y=>((aH "sorter" Y).bind (cZ cl true "prepare" λ Y=>.ok [] Y)).bind λ _ Y=>.ok .next Y
noncomputable def Bv:iB:=λ cl k Y=>aA (Ea cl k Y) λ Y=>.ok .next Y
noncomputable def ZM:iB:=λ cl k Y=>(aC.ok (.bool true) Y).bind λ a Y=>.ok .next (aX "ringed" a Y)
noncomputable def aga:iB:=λ cl k Y=>aA (ZM cl k Y) λ Y=>.ok .next Y
noncomputable def Iz:iB:=λ cl k Y=>Bb (Bv cl k) (λ Y=>.ok .next Y) (λ e Y=>if("CycleError"==jl e&&true)then(aga cl k Y).bindN λ f Y=>.ok f Y else .bad) Y
noncomputable def Pq:iB:=λ cl k Y=>(((uI (k+0) Y).bind λ a Y=>(aC.ok [] Y).bind λ b Y=>.ok (a::b) Y).bind λ c Y=>vB c Y).bind λ d Y=>.ok .next (aX "left" d Y)
noncomputable def Pr:iB:=λ cl k Y=>((aC.ok [] Y).bind λ a Y=>Y.new (.list a)).bind λ b Y=>((Jr (k+1) b Y).bind λ _ Y=>.ok () Y).bind λ _ Y=>.ok .next Y
noncomputable def yH:SCk:=λ cl k Y=>((aH "one" Y).bind λ a Y=>(uI (k+1) Y).bind λ b Y=>(bA (XJ a b Y) Y).bind λ c Y=>.ok c Y).bind λ d Y=>if !d then .ok d Y else .ok true Y
noncomputable def Eb:SVk:=λ cl k Y=>aH "one" Y
noncomputable def yI:SCk:=λ cl k Y=>((((uI (k+0) Y).bind λ a Y=>(aH "node" Y).bind λ b Y=>jm (iz a b Y) Y).bind (kh true "one" (yH cl k) (Eb cl k))).bind λ c Y=>((aC.ok [] Y).bind λ d Y=>Y.new (.list d)).bind λ e Y=>(bA (FN c e Y) Y).bind λ f Y=>.ok f Y).bind λ g Y=>if !g then .ok g Y else .ok true Y
noncomputable def Ec:SVk:=λ cl k Y=>aH "node" Y
noncomputable def yJ:iB:=λ cl k Y=>((aH "left" Y).bind (kh true "node" (yI cl k) (Ec cl k))).bind λ a Y=>((Jr (k+2) a Y).bind λ _ Y=>.ok () Y).bind λ _ Y=>.ok .next Y
noncomputable def Pu:iB:=λ cl k Y=>(aC.ok (.bool false) Y).bind λ a Y=>.ok (.ret a) Y
noncomputable def V2:iB:=λ cl k Y=>aA (Pu cl k Y) λ Y=>.ok .next Y
noncomputable def yK:iB:=λ cl k Y=>(((aH "sorter" Y).bind (cZ cl true "is_active" λ Y=>.ok [] Y)).bind λ a Y=>((uI (k+2) Y).bind λ b Y=>((aC.ok [] Y).bind λ c Y=>Y.new (.list c)).bind λ d Y=>(bA (vz b d Y) Y).bind λ e Y=>.ok (V.bool e) Y).bind λ f Y=>(bA (zG .IsNot a f Y) Y).bind λ g Y=>.ok g Y).bind λ h Y=>if h then V2 cl k Y else .ok .next Y
noncomputable def yL:iB:=λ cl k Y=>((aH "sorter" Y).bind (cZ cl true "get_ready" λ Y=>.ok [] Y)).bind λ a Y=>.ok .next (aX "given" a Y)
noncomputable def Px:iB:=λ cl k Y=>(aC.ok (.bool false) Y).bind λ a Y=>.ok (.ret a) Y
noncomputable def V3:iB:=λ cl k Y=>aA (Px cl k Y) λ Y=>.ok .next Y
noncomputable def yM:iB:=λ cl k Y=>((((aH "given" Y).bind λ a Y=>(aC.ok [] Y).bind λ b Y=>.ok (a::b) Y).bind λ c Y=>vB c Y).bind λ d Y=>(uI (k+2) Y).bind λ e Y=>(bA (vz d e Y) Y).bind λ f Y=>.ok f Y).bind λ g Y=>if g then V3 cl k Y else .ok .next Y
noncomputable def Bw:iB:=λ cl k Y=>((aH "ringed" Y).bind λ a Y=>((aH "left" Y).bind λ b Y=>((aC.ok [] Y).bind λ c Y=>Y.new (.list c)).bind λ d Y=>(bA (vz b d Y) Y).bind λ e Y=>.ok (V.bool e) Y).bind λ f Y=>(bA (Tq a f) Y).bind λ g Y=>.ok (V.bool g) Y).bind λ h Y=>.ok (.ret h) Y
noncomputable def IK:iB:=λ cl k Y=>aA (Bw cl k Y) λ Y=>.ok .next Y
noncomputable def uV:iB:=λ cl k Y=>((uI (k+2) Y).bind λ a Y=>((aC.ok [] Y).bind λ b Y=>Y.new (.list b)).bind λ c Y=>(bA (FN a c Y) Y).bind λ d Y=>.ok d Y).bind λ e Y=>if e then IK cl k Y else .ok .next Y
noncomputable def Gf:iB:=λ cl k Y=>(aC.ok (.bool false) Y).bind λ a Y=>.ok (.ret a) Y
noncomputable def JS:iB:=λ cl k Y=>aA (Gf cl k Y) λ Y=>.ok .next Y
noncomputable def Bx:iB:=λ cl k Y=>((((aH "sorter" Y).bind (cZ cl true "is_active" λ Y=>.ok [] Y)).bind λ a Y=>bA (cL a Y) Y).bind λ b Y=>.ok (!b) Y).bind λ c Y=>if c then JS cl k Y else .ok .next Y
noncomputable def BJ:iB:=λ cl k Y=>((aH "sorter" Y).bind (cZ cl true "done" λ Y=>(aH "node" Y).bind λ a Y=>(aC.ok [] Y).bind λ b Y=>.ok (a::b) Y)).bind λ _ Y=>.ok .next Y
noncomputable def zZ:iB:=λ cl k Y=>aA (Bx cl k Y) λ Y=>aA (BJ cl k Y) λ Y=>.ok .next Y
noncomputable def Ed:iB:=λ cl k Y=>(aH "given" Y).bind (lV (λ v Y=>zZ cl k (aX "node" v Y)) (λ Y=>.ok .next Y))
noncomputable def Ef:iB:=λ cl k Y=>((uI (k+1) Y).bind λ a Y=>(uI (k+2) Y).bind λ b Y=>ru a b Y).bind λ c Y=>((Jr (k+1) c Y).bind λ _ Y=>.ok () Y).bind λ _ Y=>.ok .next Y
noncomputable def yN:SCk:=λ cl k Y=>((aH "node" Y).bind λ a Y=>(uI (k+2) Y).bind λ b Y=>(bA (XJ a b Y) Y).bind λ c Y=>.ok c Y).bind λ d Y=>if !d then .ok d Y else .ok true Y
noncomputable def Eg:SVk:=λ cl k Y=>aH "node" Y
noncomputable def Eh:iB:=λ cl k Y=>((aH "left" Y).bind (kh true "node" (yN cl k) (Eg cl k))).bind λ a Y=>.ok .next (aX "left" a Y)
noncomputable def Py:iB:=λ cl k Y=>aA (yJ cl k Y) λ Y=>aA (yK cl k Y) λ Y=>aA (yL cl k Y) λ Y=>aA (yM cl k Y) λ Y=>aA (uV cl k Y) λ Y=>aA (Ed cl k Y) λ Y=>aA (Ef cl k Y) λ Y=>aA (Eh cl k Y) λ Y=>.ok .next Y
noncomputable def Pz:iB:=λ cl k Y=>if(true:Bool)then nT (λ Y=>(aC.ok (.bool true) Y).bind λ a Y=>bA (cL a Y) Y) (Py cl k) (λ Y=>.ok .next Y) wf Y else .bad
noncomputable def akO:iB:=λ cl k Y=>aA (VN cl k Y) λ Y=>aA (VP cl k Y) λ Y=>aA (Pn cl k Y) λ Y=>aA (V0 cl k Y) λ Y=>aA (V1 cl k Y) λ Y=>aA (Iz cl k Y) λ Y=>aA (Pq cl k Y) λ Y=>aA (Pr cl k Y) λ Y=>aA (Pz cl k Y) λ Y=>.ok .next Y
theorem aei:bY (gR cl 60) (zU 330) (enC 330 k) Y=akO cl k Y:=by kernel_rfl
end
theorem fG(L)(S:List O)(o:O):St.new ⟨L,S⟩ o=.ok (.ref S.length) ⟨L,S++[o]⟩:=rfl
theorem V4(L)(S:List O):Tr [.bi .str,.ref S.length] ⟨L,S++[.tup [.bi .str,.bi .bytes]]⟩=.ok (.bool true) ⟨L,S++[.tup [.bi .str,.bi .bytes]]⟩:=if_pos ⟨rfl,nZ⟩
theorem dW(b:Bool)(Y:St):cL (.bool b) Y=some b:=rfl
theorem aO(b:Bool)(Y:St):bA (some b) Y=.ok b Y:=rfl
theorem ob{o:Option Bool}{b:Bool}{Y:St}(h:o=some b):bA o Y=.ok b Y:=by rw[h];rfl
theorem oo{o:Option V}{b:V}{Y:St}(h:o=some b):jm o Y=.ok b Y:=by rw[h];rfl
theorem aej(x:Str)(Y:St):aaR [.str x] Y=.ok (.bi .str) Y:=rfl
noncomputable abbrev dM:List O:=[.tup [.bi .str,.bi .bytes]]
theorem gU(d:Nat)(x:Str)(l)(S:List O):aG (d+1) 214 [.str x] ⟨l,S⟩=.ok (.str x) ⟨l,S++dM⟩:=by
 rw[fZ (L:=xR (some (.str x)) none none none) (S₁:=S) (by kernel_rfl),acG];simp only[akh,acE,acF,W7,KQ,ah9,aia,aib,aC.bind_ok,aQ,eV,aej,fG,V4,dW,aO,if_true,jg]
theorem Fv(d:Nat)(x:Str)(l)(S:List O):aG (d+1) 235 [.str x] ⟨l,S⟩=.ok (.str aU) ⟨l,S⟩:=by
 rw[fZ (L:=acu (some (.str x))) (S₁:=S) (by kernel_rfl),acH];rfl
end Mine
namespace Mine
open PySem PySem.Builtin.Str
noncomputable abbrev tx(x:Str):List Nat:=x.cps.toList
theorem qC{x y:Str}(h:tx x=tx y):x=y:=Str.ext' (vf.mp h)
theorem yO(x y:Str):tx (x++y)=tx x++tx y:=by simp[tx,Str.cps_append]
theorem iy(x:Str):x.length=(tx x).length:=by simp[tx,Str.length]
theorem RZ:aU=⟨#[47]⟩:=by decide+kernel
theorem IV:tx aU=[47]:=by rw[RZ]
noncomputable def Ok(c:Str):Prop:=47∉tx c
theorem V5(c d:Str)(r:List Str):Str.join aU (c::d::r)=c++aU++Str.join aU (d::r):=rfl
theorem qe(c d:Str)(r:List Str):tx (Str.join aU (c::d::r))=tx c++47::tx (Str.join aU (d::r)):=by
 rw[V5,yO,yO,IV];simp
theorem BK(c:Str):Str.join aU [c]=c:=rfl
theorem R0:∀{a b:List Nat}{x y:List Nat},47∉a->47∉b->a++47::x=b++47::y->a=b/\x=y:=by
 intro a;induction a with
 |nil=>
  intro b x y _ hb h;rcases b with _|⟨c,b⟩
  ·exact⟨rfl,(List.cons.inj h).2⟩
  ·exact absurd ((List.cons.inj h).1▸bw) hb
 |cons c a ih=>
  intro b x y ha hb h;rcases b with _|⟨d,b⟩
  ·exact absurd ((List.cons.inj h).1▸bw) ha
  ·obtain⟨h1,h2⟩:=ih (λ q=>ha (bM _ q)) (λ q=>hb (bM _ q)) (List.cons.inj h).2;exact⟨by rw[(List.cons.inj h).1,h1],h2⟩
theorem aek:∀{a b:List Str},a≠[]->b≠[]->(∀c∈a,Ok c)->(∀c∈b,Ok c)->Str.join aU a=Str.join aU b->a=b:=by
 intro a;induction a with
 |nil=>exact λ h=>absurd rfl h
 |cons c r ih=>
  intro b _ h0 ha hb h;have h:=congrArg tx h;rcases b with _|⟨d,t⟩
  ·exact absurd rfl h0
  have ha1:=ha c bw;have hb1:=hb d bw;rcases r with _|⟨e,r⟩<;>rcases t with _|⟨f,t⟩
  ·rw[BK,BK]at h;rw[qC h]
  ·rw[BK,qe]at h;exact absurd (by rw[h];simp) ha1
  ·rw[BK,qe]at h;exact absurd (by rw[<-h];simp) hb1
  ·rw[qe,qe]at h;obtain⟨h1,h2⟩:=R0 ha1 hb1 h;rw[qC h1,ih (b:=f::t) (vo _ _) (vo _ _) (λ x q=>ha x (bM _ q)) (λ x q=>hb x (bM _ q)) (qC h2)]
theorem ael(x:Str):dJ x aU≠[]:=by
 intro q;unfold dJ at q;split at q
 ·contradiction
 ·split at q
  ·contradiction
  ·rw[StrLaws.partsBetween_eq]at q;obtain⟨p,r,e⟩:=StrLaws.partsFrom_ne x aU.length 0 (occurrences x aU 0 x.length (x.length+1));rw[e]at q;contradiction
theorem lg{cs:List Str}(hn:cs≠[])(ho:∀c∈cs,Ok c):dJ (Str.join aU cs) aU=cs:=
 aek (ael _) hn (λ c hc=>by rw[RZ]at hc;exact StrLaws.split_free _ _ c hc) ho (StrLaws.join_split _ _)
theorem aem:∀{a b:List Str},a≠[]->b≠[]->Str.join aU (a++b)=Str.join aU a++aU++Str.join aU b:=by
 intro a;induction a with
 |nil=>exact λ h=>absurd rfl h
 |cons c r ih=>
  intro b _ hb;rcases r with _|⟨e,r⟩
  ·rcases b with _|⟨d,r⟩
   ·exact absurd rfl hb
   ·rfl
  show c++aU++Str.join aU ((e::r)++b)=c++aU++Str.join aU (e::r)++aU++Str.join aU b;rw[ih (vo _ _) hb];simp only[Str.append_assoc]
theorem wu(x:Str):gK x aU=((tx x).head? ==some 47):=by
 unfold gK;rw[StrLaws.subAt_eq];show(decide (0+1<=x.length)&&((x.cps.toList.drop 0).take 1==[47]))=(x.cps.toList.head? ==some 47);have h:x.length=x.cps.toList.length:=iy x;rw[h];generalize x.cps.toList=l;induction l with
 |nil=>rfl
 |cons a r=>simp
theorem V6(x:Str):lM x aU=((tx x).getLast? ==some 47):=by
 unfold lM;rw[StrLaws.subAt_eq];show(decide (0+1<=x.length)&&((x.cps.toList.drop (x.length - 1)).take 1==[47]))=(x.cps.toList.getLast? ==some 47);have h:x.length=x.cps.toList.length:=iy x;rw[h];generalize x.cps.toList=l;rw[lR];induction l with
 |nil=>rfl
 |cons a r=>
  have:(a::r)[(a::r).length - 1]?=some ((a::r)[(a::r).length - 1]'(by simp)):=bf (by simp);rw[this];have e:(List.drop ((a::r).length - 1) (a::r)).take 1=[(a::r)[(a::r).length - 1]'(by simp)]:=by
   rw[eF (by simp)];rfl
  simp only[e];simp
theorem LC(a b n:Nat):strSliceIndices (some (a:Int)) (some (b:Int)) 1 n=strSliceIndices (some ((min a n:Nat):Int)) (some ((min b n:Nat):Int)) 1 n:=by
 have h1:¬ ((a:Int) < 0):=by lia
 have h2:¬ ((b:Int) < 0):=by lia
 have h3:¬ (((min a n:Nat):Int) < 0):=by lia
 have h4:¬ (((min b n:Nat):Int) < 0):=by lia
 simp only[strSliceIndices,h1,h2,h3,h4,if_false,(by lia:max (0:Int) (min (a:Int) (n:Int))=max 0 (min ((min a n:Nat):Int) (n:Int))),(by lia:max (0:Int) (min (b:Int) (n:Int))=max 0 (min ((min b n:Nat):Int) (n:Int))),show((1:Int) > 0)=True from by simp,if_true]
theorem BL(x:Str){a b:Nat}(hab:a<=b):tx (dF x (some (a:Int)) (some (b:Int)))=((tx x).drop a).take (b - a):=by
 have e:dF x (some (a:Int)) (some (b:Int))=StrLaws.sliceText x (some ((min a x.length:Nat):Int)) (some ((min b x.length:Nat):Int)):=by
  unfold dF StrLaws.sliceText;rw[LC]
 rw[e,StrLaws.sliceText_nat x (by lia) (by lia)];show(((tx x).drop _).take _).toArray.toList=_;rw[(iy x)];generalize tx x=l;by_cases ha:a<=l.length
 ·rw[mG ha];by_cases hb:b<=l.length
  ·rw[mG hb]
  ·rw[lO (by lia),dU (by simp),dU (by simp;lia)]
 ·rw[cP (i:=min a l.length) (by lia),cP (i:=a) (by lia)];simp
theorem aho(x:Str)(b:Nat):tx (dF x none (some (b:Int)))=(tx x).take b:=by
 have e:dF x none (some (b:Int))=dF x (some ((0:Nat):Int)) (some (b:Int)):=by
  unfold dF;rw[StrLaws.sliceIdx_none_lo];rfl
 rw[e,BL x (dR b)];simp
theorem agb(x:Str)(a:Nat):tx (dF x (some (a:Int)) none)=(tx x).drop a:=by
 have e:dF x (some (a:Int)) none=dF x (some (a:Int)) (some (x.length:Int)):=by
  unfold dF;rw[StrLaws.sliceIdx_none_hi]
 rw[e];by_cases ha:a<=x.length
 ·rw[BL x ha,dU (by rw[eY];exact bV _)]
 ·have e2:dF x (some (a:Int)) (some (x.length:Int))=dF x (some (x.length:Int)) (some (x.length:Int)):=by
   unfold dF;rw[LC,lO (by lia),lO (bV _)]
  rw[e2,BL x (bV _),cP (by rw[<-iy x];exact bV _),cP (by rw[<-iy x];lia)];simp
end Mine
namespace Mine
open PySem
theorem qX{b:Nat}(hb:b<=1000000):rz (.int b)=some (some (b:Int)):=if_pos ⟨by lia,by lia⟩
theorem aen(x:Str)(b:Nat)(hb:b<=1000000)(hx:small x.length=true)(Y:St):d9 (.str x) .none (.int b) Y=.ok (.str (dF x none (some (b:Int)))) Y:=by
 unfold d9;rw[qX hb];exact if_pos hx
theorem V7(x:Str)(a:Nat)(ha:a<=1000000)(hx:small x.length=true)(Y:St):d9 (.str x) (.int a) .none Y=.ok (.str (dF x (some (a:Int)) none)) Y:=by
 unfold d9;rw[qX ha];exact if_pos hx
theorem aeo(x:Str)(a b:Nat)(ha:a<=1000000)(hb:b<=1000000)(hx:small x.length=true)(Y:St):d9 (.str x) (.int a) (.int b) Y=.ok (.str (dF x (some (a:Int)) (some (b:Int)))) Y:=by
 unfold d9;rw[qX ha,qX hb];exact if_pos hx
theorem oA(x:Str)(Y:St):nR [.str x,.bi .bytes] Y=.ok (.bool false) Y:=rfl
theorem eq_str(x y:Str)(Y:St):FN (.str x) (.str y) Y=some (x==y):=rfl
theorem ne_str(x y:Str)(Y:St):vz (.str x) (.str y) Y=some (x != y):=rfl
theorem R6{x y:Str}(h:tx x≠tx y):(x != y)=true:=by rw[bne_iff_ne];exact λ q=>h (congrArg tx q)
theorem aep{x y:Str}(h:tx x=tx y):(x != y)=false:=by rw[qC h];exact bne_self_eq_false _
theorem IW(d:Nat)(x:Str)(l)(S:List O)(hx:small x.length=true)(h2:(tx x).head? =some 47->((tx x).drop 1).head?≠some 47):
  aG (d+2) 249 [.str x] ⟨l,S⟩=.ok (.ref (S.length+1)) ⟨l,S++(dM++[.tup (if(tx x).head? =some 47 then [.str "",.str aU,.str (dF x (some ((1:Nat):Int)) none)]else [.str "",.str "",.str x])])⟩:=by
 rw[fZ (L:=Dn (some (.str x)) none none) (S₁:=S) (by kernel_rfl),acQ];have hs1:∀(L) (S:List O),d9 (.str x) .none (.int 1) ⟨L,S⟩=_:=λ L S=>aen x 1 (by lia) hx ⟨L,S⟩
 have hs2:∀(L) (S:List O),d9 (.str x) (.int 1) .none ⟨L,S⟩=_:=λ L S=>V7 x 1 (by lia) hx ⟨L,S⟩
 have hs3:∀(L) (S:List O),d9 (.str x) (.int 1) (.int 2) ⟨L,S⟩=_:=λ L S=>aeo x 1 2 (by lia) (by simp) hx ⟨L,S⟩
 simp only[akj,acN,acO,W9,KR,KY,acP,U3,U4,U5,aii,aij,aik,aC.bind_ok,aQ,gU,oA,dW,aO,if_false,aF,hs1,ne_str];by_cases h1:(tx x).head? =some 47
 ·have e1:(dF x none (some ((1:Nat):Int)) != ("/":Str))=false:=aep (by
   rw[aho];induction hx':tx x with
   |nil=>rw[hx']at h1;contradiction
   |cons a r=>rw[hx']at h1;cases h1;exact IV.symm)
  have e2:(dF x (some ((1:Nat):Int)) (some ((2:Nat):Int)) != ("/":Str))=true:=R6 (by
   rw[BL x (by simp)];have h2:=h2 h1;generalize(tx x).drop 1=t at h2;intro q;have q:t.take 1=[47]:=q;induction t with
   |nil=>contradiction
   |cons a r=>simp at q;subst q;exact h2 rfl)
  simp only[e1,Xb,K1,Ij,Bc,U3,U4,U5,aC.bind_ok,hs3,ne_str,aO,e2,if_true,hs2,fG,eV,jg,h1];simp;rfl
 ·have e1:(dF x none (some ((1:Nat):Int)) != ("/":Str))=true:=R6 (by
   rw[aho];intro q;have q:(tx x).take 1=[47]:=q;induction hx':tx x with
   |nil=>rw[hx']at q;contradiction
   |cons a r=>rw[hx']at q h1;simp at q;subst q;exact h1 rfl)
  simp only[e1,if_true,Xa,KZ,U3,U4,U5,aC.bind_ok,fG,eV,jg,h1,if_false];simp
section
variable {cl:Nat->List V->St->aC V}{live:Bool}{args:St->aC (List V)}
theorem rY{name:Str}{m:Me}{x:Str}(h:GK.lookup name=some m)(Y:St):cZ cl live name args (.str x) Y=(args Y).bind λ vs Y=>gH m (.str x) vs Y:=by
 unfold cZ;rw[show pR (.str x) name Y=some (.bi m)by unfold pR;rw[h];rfl]
theorem Ei{name:Str}{m:Me}{n:Nat}{xs:List V}{L}{S:List O}(h:CG.lookup name=some m)(e:S[n]?=some (.list xs)):cZ cl live name args (.ref n) ⟨L,S⟩=(args ⟨L,S⟩).bind λ vs Y=>gH m (.ref n) vs Y:=by
 unfold cZ;rw[show pR (.ref n) name ⟨L,S⟩=some (.bi m)from(dY e).trans (congrArg (wG vA.bi) h)]
end
section
variable {cl:Nat->List V->St->aC V}{live:Bool}{args:St->aC (List V)}{n:Nat}{xs:List V}{L:List (Str×Option V)}{S:List O}
theorem jN(e:S[n]?=some (.list xs)):cZ cl live ("append":Str) args (.ref n) ⟨L,S⟩=(args ⟨L,S⟩).bind λ vs Y=>gH .append (.ref n) vs Y:=Ei (by kernel_rfl) e
theorem I4(e:S[n]?=some (.list xs)):cZ cl live ("pop":Str) args (.ref n) ⟨L,S⟩=(args ⟨L,S⟩).bind λ vs Y=>gH .pop (.ref n) vs Y:=Ei (by kernel_rfl) e
theorem V8(e:S[n]?=some (.list xs)):cZ cl live ("clear":Str) args (.ref n) ⟨L,S⟩=(args ⟨L,S⟩).bind λ vs Y=>gH .clear (.ref n) vs Y:=Ei (by kernel_rfl) e
theorem z6(x:Str)(Y:St):cZ cl live ("split":Str) args (.str x) Y=(args Y).bind λ vs Y=>gH .split (.str x) vs Y:=rY (by kernel_rfl) Y
theorem nq(x:Str)(Y:St):cZ cl live ("join":Str) args (.str x) Y=(args Y).bind λ vs Y=>gH .join (.str x) vs Y:=rY (by kernel_rfl) Y
theorem nu(x:Str)(Y:St):cZ cl live ("startswith":Str) args (.str x) Y=(args Y).bind λ vs Y=>gH .startswith (.str x) vs Y:=rY (by kernel_rfl) Y
theorem LK(x:Str)(Y:St):cZ cl live ("endswith":Str) args (.str x) Y=(args Y).bind λ vs Y=>gH .endswith (.str x) vs Y:=rY (by kernel_rfl) Y
theorem V9(x:Str)(Y:St):cZ cl live ("rfind":Str) args (.str x) Y=(args Y).bind λ vs Y=>gH .rfind (.str x) vs Y:=rY (by kernel_rfl) Y
theorem R7(x:Str)(Y:St):cZ cl live ("rstrip":Str) args (.str x) Y=(args Y).bind λ vs Y=>gH .rstrip (.str x) vs Y:=rY (by kernel_rfl) Y
theorem Fw(x:Str)(Y:St):cZ cl live ("lstrip":Str) args (.str x) Y=(args Y).bind λ vs Y=>gH .lstrip (.str x) vs Y:=rY (by kernel_rfl) Y
end
theorem I5{x:Str}(hx:small x.length=true)(Y:St):gH .split (.str x) [.str aU] Y=Y.new (.list ((dJ x aU).map .str)):=if_pos (by rw[hx];rfl)
section
variable {L:List (Str×Option V)}{S:List O}{n:Nat}{xs:List V}
theorem nC(e:S[n]?=some (.list xs))(hs:small xs.length=true)(hk:8<=n)(v:V):gH .append (.ref n) [v] ⟨L,S⟩=.ok .none ⟨L,S.set n (.list (xs++[v]))⟩:=(gD e).trans ((if_pos (decide_eq_true ⟨rfl,hs⟩)).trans (if_pos hk))
theorem Wa(e:S[n]?=some (.list xs))(hs:small xs.length=true)(hk:8<=n){v:V}(hl:xs.getLast? =some v):gH .pop (.ref n) [] ⟨L,S⟩=.ok v ⟨L,S.set n (.list xs.dropLast)⟩:=(gD e).trans ((if_pos hs).trans ((gD hl).trans (if_pos hk)))
theorem rZ(e:S[n]?=some (.list xs))(hs:small xs.length=true):cL (.ref n) ⟨L,S⟩=some (!xs.isEmpty):=(dY e).trans (if_pos hs)
theorem Gv{i n:Nat}(h:i < n)(hn:small n=true):za (i:Int) n=some i:=by
 have hn:n<=100000:=of_decide_eq_true hn;unfold za;rw[if_neg (by lia),StrLaws.seqIndex_nonneg (by simp) (by lia)];rfl
theorem aer{n:Nat}(h:0 < n)(hn:small n=true):za (-1) n=some (n - 1):=by
 unfold za;rw[if_neg (by simp),StrLaws.seqIndex_neg (by simp) (by lia)];congr 1;lia
theorem yP(e:S[n]?=some (.list xs))(hs:small xs.length=true){i:Int}{j:Nat}(hi:za i xs.length=some j){v:V}(hv:xs[j]?=some v):iz (.ref n) (.int i) ⟨L,S⟩=some v:=(dY e).trans ((if_pos hs).trans ((dY hi).trans hv))
theorem Ej(e:S[n]?=some (.list xs))(hs:small xs.length=true){v:V}(hv:xs.getLast? =some v):iz (.ref n) (.int (-1)) ⟨L,S⟩=some v:=by
 rw[lR]at hv;exact yP e hs (aer (by have:=(aN.mp hv).1;lia) hs) hv
theorem dX(v:V)(Y:St):jm (some v) Y=.ok v Y:=rfl
theorem lH(x:Str)(hx:small x.length=true)(Y:St):cL (.str x) Y=some (x.length != 0):=if_pos hx
theorem xV{α:Type}:∀{l:List α}{i:Nat}{a:α},l[i]?=some a->l.set i a=l:=by
 intro l;induction l with
 |nil=>exact λ h=>ns h
 |cons b l ih=>
  intro i a h;rcases i with _|i
  ·cases h;rfl
  ·exact congrArg (b::·) (ih h)
end
noncomputable def dd:Str:=".."
noncomputable def gV:Str:="."
noncomputable def mt:Str:=""
noncomputable def iU(abs:Bool)(acc:List Str)(c:Str):List Str:=if c=mt\/c=gV then acc else if c≠dd\/(abs=false/\acc=[])\/acc.getLast? =some dd then acc++[c]else acc.dropLast
theorem oE{c:Str}:(c.length != 0)=!decide (c=mt):=by
 by_cases hc:c=mt
 ·subst hc;decide+kernel
 ·rw[decide_eq_false hc,(iy c)];induction q:tx c with
  |nil=>exact absurd (qC (q.trans (by decide+kernel:tx mt=[]).symm)) hc
  |cons a r=>simp
theorem BP(x y:Str):(x==y)=decide (x=y):=by
 by_cases h:x=y
 ·subst h;simp
 ·rw[decide_eq_false h];simpa using h
theorem qN(x y:Str):(x != y)=!decide (x=y):=by rw[bne,BP]
theorem amP{cl:Nat->List V->St->aC V}{o0 o1 o3 o4 o5 o6 o7:Option V}{c:Str}{S:List O}{b1 b2:Bool}(tc:∀Y,cL (.str c) Y=some b1)(ec:∀Y,FN (.str c) (.str gV) Y=some b2):
  Dq cl ⟨fW o0 o1 (some (.str gV)) o3 o4 o5 o6 o7 (some (.str c)),S⟩=.ok (if(!b1||b2)then .cont else .next) ⟨fW o0 o1 (some (.str gV)) o3 o4 o5 o6 o7 (some (.str c)),S⟩:=by
 induction b1 with
 |false=>exact bd (bd (bd (bd rfl (ob (tc _))) rfl) rfl) rfl
 |true=>
  induction b2 with
  |false=>exact bd (bd (bd (bd rfl (ob (tc _))) rfl) (iF rfl (bd (bd rfl (bd rfl (bd (ob (ec _)) rfl))) rfl))) rfl
  |true=>exact bd (bd (bd (bd rfl (ob (tc _))) rfl) (iF rfl (bd (bd rfl (bd rfl (bd (ob (ec _)) rfl))) rfl))) rfl
section
variable {cl:Nat->List V->St->aC V}{o0 o1 o2 o4 o6:Option V}{init:Str}{n:Nat}{c:Str}{acc:List Str}{S S':List O}
 (nc:∀Y,vz (.str c) (.str dd) Y=some false) {bi:Bool}(ti:∀Y,cL (.str init) Y=some bi) {bn:Bool}(tn:∀L,cL (.ref n) ⟨L,S⟩=some bn)
include nc ti tn
theorem ajq{b3:Bool}(h3:bn=true->∃v,(∀L,iz (.ref n) (.int (-1)) ⟨L,S⟩=some v)/\∀Y,FN v (.str dd) Y=some b3){x:aC Fl}
  (hx:(if((!bi&&!bn)||(bn&&b3))then vR cl ⟨fW o0 o1 o2 (some (.str dd)) o4 (some (.str init)) o6 (some (.ref n)) (some (.str c)),S⟩else Ik cl ⟨fW o0 o1 o2 (some (.str dd)) o4 (some (.str init)) o6 (some (.ref n)) (some (.str c)),S⟩)=x):
  Dr cl ⟨fW o0 o1 o2 (some (.str dd)) o4 (some (.str init)) o6 (some (.ref n)) (some (.str c)),S⟩=x:=by
 subst hx;induction bn with
 |false=>
  induction bi with
  |false=>exact bd (bd (bd rfl (bd rfl (bd (ob (nc _)) rfl))) (iF rfl (bd (bd (bd (bd rfl (ob (ti _))) rfl) (iF rfl (bd (bd (bd rfl (ob (tn _))) rfl) rfl))) rfl))) rfl
  |true=>exact bd (bd (bd rfl (bd rfl (bd (ob (nc _)) rfl))) (iF rfl (bd (bd (bd (bd rfl (ob (ti _))) rfl) rfl) (iF rfl (bd (bd (bd rfl (ob (tn _))) rfl) rfl))))) rfl
 |true=>
  obtain⟨v,h4,h5⟩:=h3 rfl;have p2:((((aH ("new_comps":Str) ⟨fW o0 o1 o2 (some (.str dd)) o4 (some (.str init)) o6 (some (.ref n)) (some (.str c)),S⟩).bind λ v53 Y=>bA (cL v53 Y) Y).bind λ v52 Y=>if !v52 then aC.ok v52 Y else(((aH ("new_comps":Str) Y).bind λ v58 Y=>((aC.ok (.int 1) Y).bind (WN .USub)).bind λ v59 Y=>jm (iz v58 v59 Y) Y).bind λ v56 Y=>(aH ("dotdot":Str) Y).bind λ v57 Y=>(bA (FN v56 v57 Y) Y).bind λ v55 Y=>aC.ok v55 Y).bind λ v54 Y=>if !v54 then aC.ok v54 Y else aC.ok true Y):aC Bool)=.ok b3 ⟨fW o0 o1 o2 (some (.str dd)) o4 (some (.str init)) o6 (some (.ref n)) (some (.str c)),S⟩:=by
   clear h3;induction b3<;>exact bd (bd rfl (ob (tn _))) (iF rfl (bd (bd (bd rfl (bd rfl (oo (h4 _)))) (bd rfl (bd (ob (h5 _)) rfl))) rfl))
  clear h3;clear h5;induction bi with
  |false=>induction b3<;>exact bd (bd (bd rfl (bd rfl (bd (ob (nc _)) rfl))) (iF rfl (bd (bd (bd (bd rfl (ob (ti _))) rfl) (iF rfl (bd (bd (bd rfl (ob (tn _))) rfl) rfl))) (iF rfl (bd p2 rfl))))) rfl
  |true=>induction b3<;>exact bd (bd (bd rfl (bd rfl (bd (ob (nc _)) rfl))) (iF rfl (bd (bd (bd (bd rfl (ob (ti _))) rfl) rfl) (iF rfl (bd p2 rfl))))) rfl
end
theorem akP{cl:Nat->List V->St->aC V}{o0 o1 o2 o4 o5 o6 o7:Option V}{c:Str}{S:List O}(nc:∀Y,vz (.str c) (.str dd) Y=some true):
  Dr cl ⟨fW o0 o1 o2 (some (.str dd)) o4 o5 o6 o7 (some (.str c)),S⟩=vR cl ⟨fW o0 o1 o2 (some (.str dd)) o4 o5 o6 o7 (some (.str c)),S⟩:=
 bd (bd (bd rfl (bd rfl (bd (ob (nc _)) rfl))) rfl) rfl
set_option tactic.hygienic true in
theorem ZP{cl:Nat->List V->St->aC V}{o0 o4 o6:Option V}{init:Str}{n:Nat}{c:Str}{acc:List Str}{S:List O}
  (e:S[n]?=some (.list (acc.map .str))) (hk:8<=n) (hs:small acc.length=true) (hc:small c.length=true) (hi:small init.length=true):
  ∃fl,(fl=.next\/fl=.cont)/\Be cl ⟨fW o0 (some (.str aU)) (some (.str gV)) (some (.str dd)) o4 (some (.str init)) o6 (some (.ref n)) (some (.str c)),S⟩=
   .ok fl ⟨fW o0 (some (.str aU)) (some (.str gV)) (some (.str dd)) o4 (some (.str init)) o6 (some (.ref n)) (some (.str c)),S.set n (.list ((iU (decide (init≠mt)) acc c).map .str))⟩:=by
 refine uq λ Zz toG=>?_
 have hs':small (acc.map V.str).length=true:=by rw[au];exact hs
 have ti:∀Y,cL (.str init) Y=some (decide (init≠mt)):=λ Y=>by rw[lH init hi,oE,decide_not]
 generalize hR:iU (decide (init≠mt)) acc c=R at toG;have tn:=λ L=>rZ (L:=L) e hs'
 have go:∀{b1 b2:Bool}{k:St->aC Fl},decide (c=mt)=b1->decide (c=gV)=b2->aA (Dq cl ⟨fW o0 (some (.str aU)) (some (.str gV)) (some (.str dd)) o4 (some (.str init)) o6 (some (.ref n)) (some (.str c)),S⟩) k=aA (.ok (if(!!b1||b2)then .cont else .next) ⟨fW o0 (some (.str aU)) (some (.str gV)) (some (.str dd)) o4 (some (.str init)) o6 (some (.ref n)) (some (.str c)),S⟩) k:=λ h1 h2=>by
  rw[<-h1,<-h2];exact congrArg (λ r=>aA r _) (amP (λ Y=>by rw[lH c hc,oE]) (λ Y=>congrArg some (BP ..)))
 have put:∀{k:St->aC Fl},aA (vR cl ⟨fW o0 (some (.str aU)) (some (.str gV)) (some (.str dd)) o4 (some (.str init)) o6 (some (.ref n)) (some (.str c)),S⟩) k=k ⟨fW o0 (some (.str aU)) (some (.str gV)) (some (.str dd)) o4 (some (.str init)) o6 (some (.ref n)) (some (.str c)),S.set n (.list ((acc++[c]).map .str))⟩:=λ{k}=>by
  rw[aP];exact th (th (bd (bd rfl ((jN e).trans (bd rfl (nC e hs' hk _)))) rfl) rfl) rfl
 replace toG:=λ fl h1 h2=>toG ⟨fl,h1,h2⟩
 unfold iU at hR;by_cases h1:c=mt
 ·rw[if_pos (.inl h1)]at hR;exact toG .cont (.inr rfl) ((go (decide_eq_true h1) rfl).trans (by rw[<-hR,xV e];rfl))
 ·by_cases h2:c=gV
  ·rw[if_pos (.inr h2)]at hR;exact toG .cont (.inr rfl) ((go (decide_eq_false h1) (decide_eq_true h2)).trans (by rw[<-hR,xV e];rfl))
  ·rw[if_neg (λ q=>q.elim h1 h2)]at hR;have go:=λ k=>go (k:=k) (decide_eq_false h1) (decide_eq_false h2)
   by_cases h3:c=dd
   ·have nc:∀Y,vz (.str c) (.str dd) Y=some false:=λ Y=>(congrArg some (qN ..)).trans (by rw[decide_eq_true h3];rfl)
    induction hq:acc.getLast? with
    |none=>
     have h4:=fO.mp hq;clear hs hs' hq;subst h4;induction hb:decide (init≠mt)with
     |false=>
      rw[hb]at ti;rw[if_pos (.inr (.inl ⟨hb,rfl⟩))]at hR;rw[hR]at put;exact toG .next (.inl rfl) ((go _).trans ((congrArg (λ r=>aA r λ Y=>.ok .next Y) (ajq (b3:=false) nc ti tn nofun rfl)).trans put))
     |true=>
      rw[hb]at ti;rw[if_neg (by rintro(q|q|q);exact q h3;rw[hb]at q;cases q.1;contradiction),List.dropLast_nil]at hR;refine toG .next (.inl rfl) ((go _).trans ((congrArg (λ r=>aA r λ Y=>.ok .next Y) (ajq (b3:=false) nc ti tn nofun rfl)).trans ?_))
      rw[<-hR,xV e];exact th (th (bd (bd rfl (ob (tn _))) rfl) rfl) rfl
    |some z=>
     have hz':(acc.map V.str).getLast? =some (.str z):=by rw[List.getLast?_map,hq];rfl
     have hit:=λ L=>Ej (L:=L) e hs' hz'
     have h4:acc≠[]:=λ q=>by rw[q]at hq;contradiction
     have te:(acc.map V.str).isEmpty=false:=by clear hs hs' hq;rw[List.isEmpty_map];induction acc with|nil=>exact absurd rfl h4|cons _ _=>rfl
     rw[te]at tn;have main:=λ x=>ajq (cl:=cl) (o0:=o0) (o1:=some (.str aU)) (o2:=some (.str gV)) (o4:=o4) (o6:=o6) nc ti tn (λ _=>⟨_,hit,(λ Y=>congrArg some (BP ..))⟩) (x:=x)
     by_cases h5:z=dd
     ·rw[if_pos (.inr (.inr (by rw[hq,h5])))]at hR;rw[hR]at put;exact toG .next (.inl rfl) ((go _).trans ((congrArg (λ r=>aA r λ Y=>.ok .next Y) (main _ (iT (by rw[decide_eq_true h5];induction decide (init≠mt)<;>rfl) rfl))).trans put))
     ·rw[if_neg (by rintro(q|q|q);exact q h3;exact h4 q.2;rw[hq]at q;cases q;exact h5 rfl)]at hR;refine toG .next (.inl rfl) ((go _).trans ((congrArg (λ r=>aA r λ Y=>.ok .next Y) (main _ (iF (by rw[decide_eq_false h5];induction decide (init≠mt)<;>rfl) rfl))).trans ?_))
      rw[<-hR,jz];exact th (th (bd (bd rfl (ob (tn _))) (th (bd (bd rfl ((I4 e).trans (bd rfl (Wa e hs' hk hz')))) rfl) rfl)) rfl) rfl
   ·rw[if_pos (.inl h3)]at hR;rw[hR]at put;exact toG .next (.inl rfl) ((go _).trans ((congrArg (λ r=>aA r λ Y=>.ok .next Y) (akP (λ Y=>(congrArg some (qN ..)).trans (by rw[decide_eq_false h3];rfl)))).trans put))
inductive aes(body:V->St->aC Fl)(I:St->Prop)(v:V)(Y:St):Prop
 |mk (fl:Fl) (Y':St) (hf:fl=.next\/fl=.cont) (e:body v Y=.ok fl Y') (h:I Y')
inductive akQ(I:St->Prop)(r:aC Fl):Prop
 |mk (Y':St) (e:r=.ok .next Y') (h:I Y')
theorem mq{α:Type}{f:α->V}{ok:St->Bool}{body:V->St->aC Fl}(I:List α->St->Prop)(hok:∀r Y,I r Y->ok Y=true)
  (hb:∀v r Y,I (v::r) Y->aes body (I r) (f v) Y) (xs:List α):∀Y,I xs Y->akQ (I []) (qJ ok body (xs.map f) Y):=by
 induction xs with
 |nil=>exact λ Y h=>⟨Y,if_pos (hok _ _ h),h⟩
 |cons v r ih=>
  intro Y h;obtain⟨fl,Y',h1,h2,h3⟩:=hb v r Y h;obtain⟨Y'',h4,h5⟩:=ih Y' h3;refine⟨Y'',?_,h5⟩;show(if ok Y=true then(body (f v) Y).bindN _ else _)=_;rw[if_pos (hok _ _ h),h2];clear h2;rcases h1 with rfl|rfl<;>exact h4
theorem sE{m:Nat}{L L':List (Str×Option V)}{S S':List O}{xs:List V}(h:S[m]?=some (.list xs))(h':S'[m]?=some (.list xs)):cW (.ref m) ⟨L,S⟩ ⟨L',S'⟩=true:=Ag h h' rfl
theorem jd{m:Nat}{L:List (Str×Option V)}{S:List O}{xs:List V}(h:S[m]?=some (.list xs))(hs:small xs.length=true):fD (.ref m) ⟨L,S⟩=some xs:=(G6 h).trans (if_pos hs)
theorem je{a b:Nat}(h:a<=b)(hb:small b=true):small a=true:=by
 have hb:b<=100000:=of_decide_eq_true hb;exact decide_eq_true (bT h hb)
theorem LQ(abs:Bool)(acc:List Str)(c:Str):(iU abs acc c).length<=acc.length+1:=by
 unfold iU;split
 ·simp
 ·split
  ·simp
  ·simp;lia
theorem ZQ{cl:Nat->List V->St->aC V}{o0 o4 o6 o8:Option V}{init:Str}{m n:Nat}{cs:List Str}{S:List O}
  (em:S[m]?=some (.list (cs.map .str))) (en:S[n]?=some (.list [])) (hmn:n≠m) (hk:8<=n) (hs:small cs.length=true) (hc:∀c∈cs,small c.length=true) (hi:small init.length=true):
  ∃o8',qJ (cW (.ref m) ⟨fW o0 (some (.str aU)) (some (.str gV)) (some (.str dd)) o4 (some (.str init)) o6 (some (.ref n)) o8,S⟩) (λ v Y=>Be cl (aX ("comp":Str) v Y)) (cs.map .str)
    ⟨fW o0 (some (.str aU)) (some (.str gV)) (some (.str dd)) o4 (some (.str init)) o6 (some (.ref n)) o8,S⟩=
   .ok .next ⟨fW o0 (some (.str aU)) (some (.str gV)) (some (.str dd)) o4 (some (.str init)) o6 (some (.ref n)) o8',S.set n (.list ((cs.foldl (iU (decide (init≠mt))) []).map .str))⟩:=by
 obtain⟨Y',h1,acc,o,h2,h3,-⟩:=mq (f:=V.str) (ok:=cW (.ref m) ⟨fW o0 (some (.str aU)) (some (.str gV)) (some (.str dd)) o4 (some (.str init)) o6 (some (.ref n)) o8,S⟩) (body:=λ v Y=>Be cl (aX ("comp":Str) v Y))
  (λ r Y=>∃acc o,Y=⟨fW o0 (some (.str aU)) (some (.str gV)) (some (.str dd)) o4 (some (.str init)) o6 (some (.ref n)) o,S.set n (.list (acc.map .str))⟩/\r.foldl (iU (decide (init≠mt))) acc=cs.foldl (iU (decide (init≠mt))) []/\acc.length+r.length<=cs.length/\∀c∈r,c∈cs)
  (by rintro r Y ⟨acc,o,rfl,-,-⟩;exact sE em ((λ o=>by rw[aY hmn];exact em:∀o,(S.set n o)[m]?=some (.list (cs.map .str))) _))
  (by
   rintro c r Y ⟨acc,o,rfl,hf,hl,hr⟩;obtain⟨fl,h1,h2⟩:=ZP (cl:=cl) (o0:=o0) (o4:=o4) (o6:=o6) ((λ o=>by rw[bR ((aN.mp en).1)]:∀o,(S.set n o)[n]?=some o) (.list (acc.map .str))) hk (je (by lia) hs) (hc c (hr c bw)) hi;simp only[aZ]at hl;refine⟨fl,_,h1,(congrArg (Be cl) (aiy ..)).trans h2,iU (decide (init≠mt)) acc c,some (.str c),by rw[wH],hf,?_,λ x hx=>hr x (bM _ hx)⟩;have:=LQ (decide (init≠mt)) acc c;lia) cs ⟨fW o0 (some (.str aU)) (some (.str gV)) (some (.str dd)) o4 (some (.str init)) o6 (some (.ref n)) o8,S⟩
  ⟨[],o8,by rw[gO,xV en],rfl,by simp,λ _ h=>h⟩
 exact⟨o,by rw[h1,h2,<-h3];rfl⟩
theorem m5:∀xs:List Str,jP (xs.map .str)=some xs
 |[]=>rfl
 |x::r=>by show(jP (r.map .str)).map (x::·)=_;rw[m5 r];rfl
theorem wz{n:Nat}{L:List (Str×Option V)}{S:List O}{xs:List Str}(e:S[n]?=some (.list (xs.map .str)))(h1:small xs.length=true)(h2:small (dI xs)=true):
  gH .join (.str aU) [.ref n] ⟨L,S⟩=.ok (.str (Str.join aU xs)) ⟨L,S⟩:=by
 show onS (St.list? ⟨L,S⟩ n) _=_;rw[gm e];show onS (jP _) _=_;rw[m5];exact if_pos (by rw[h1,h2];rfl)
theorem add_str{x y:Str}(h:small (x.length+y.length)=true)(Y:St):ru (.str x) (.str y) Y=.ok (.str (x++y)) Y:=if_pos h
theorem agc{i:Nat}{L:List (Str×Option V)}{S:List O}{a b c:V}(e:S[i]?=some (.tup [a,b,c]))(x y z:Str):Gs [x,y,z] (.ref i) ⟨L,S⟩=.ok () (aX z c (aX y b (aX x a ⟨L,S⟩))):=by
 show onS (S[i]?) _=_;rw[e];rfl
noncomputable def iK(x:Str):Str:=if(tx x).head? =some 47 then aU else mt
noncomputable def fB(x:Str):Str:=if(tx x).head? =some 47 then dF x (some ((1:Nat):Int)) none else x
noncomputable def j6(x:Str):List Str:=(dJ (fB x) aU).foldl (iU (decide (iK x≠mt))) []
noncomputable def I6(x:Str):Str:=let r:=iK x++Str.join aU (j6 x);if r=mt then gV else r
theorem zE(d:Nat)(x:Str)(l)(S:List O)(hk:8<=S.length)(hx:small x.length=true)(h0:x≠mt)(h2:(tx x).head? =some 47->((tx x).drop 1).head?≠some 47)
  (hcs:∀c∈dJ (fB x) aU,small c.length=true) (hsp:small (dJ (fB x) aU).length=true) (hn:small (j6 x).length=true) (hl:small (dI (j6 x))=true) (hj:small ((iK x).length+(Str.join aU (j6 x)).length)=true):
  ∃J,aG (d+3) 263 [.str x] ⟨l,S⟩=.ok (.str (I6 x)) ⟨l,S++J⟩:=by
 rw[fZ (L:=fW (some (.str x)) none none none none none none none none) (S₁:=S) (by kernel_rfl),ac2];have hr:small (fB x).length=true:=by
  unfold fB;split
  ·exact je (Txt.slice_le _ _ _) hx
  ·exact hx
 have ht:(if(tx x).head? =some 47 then [V.str "",V.str aU,V.str (dF x (some ((1:Nat):Int)) none)]else [V.str "",V.str "",V.str x])=[V.str "",V.str (iK x),V.str (fB x)]:=by
  delta iK fB
  split<;>rfl
 have hsr:=λ(l) (S:List O)=>IW d x l S hx h2
 rw[ht]at hsr;have eT:∀S:List O,(S++(dM++[O.tup [V.str "",V.str (iK x),V.str (fB x)]]))[S.length+1]?=some (O.tup [V.str "",V.str (iK x),V.str (fB x)]):=λ S=>jQ S _ 1
 obtain⟨T,hT,hTl⟩:∃T,S++dM++(dM++[O.tup [V.str "",V.str (iK x),V.str (fB x)]])=T/\∃J,T=S++J:=⟨_,rfl,dM++(dM++[O.tup [V.str "",V.str (iK x),V.str (fB x)]]),by rw[aj]⟩;simp only[akl,acW,acX,Xd,K4,K5,K6,acY,acZ,Ou,acw,aiq,air,ais,aC.bind_ok,aQ,gU,oA,dW,aO,if_false,aF,lH x hx,oE,(decide_eq_false h0),bH,bD,hsr,agc (eT _),ait,aiv];rw[hT];clear hT hsr eT;obtain⟨J,rfl⟩:=hTl;generalize hTg:S++J=T;have hTk:8<=T.length:=hTg▸rI hk;obtain⟨o8,hloop⟩:=ZQ (cl:=aG (d+2)) (o0:=some (.str (fB x))) (o4:=some (.str "")) (o6:=some (.ref T.length)) (o8:=none) (init:=iK x) (m:=T.length) (n:=T.length+1) (cs:=dJ (fB x) aU) (S:=T++[.list ((dJ (fB x) aU).map .str)]++[.list []])
  (by simp) (by rw[show T.length+1=(T++[O.list ((dJ (fB x) aU).map .str)]).length by simp];exact nZ) (by simp) (by exact cQ (by assumption)) hsp hcs (je (d8 _ _) hj)
 have h4:Va (aG (d+2)) ⟨fW (some (V.str (fB x))) (some (V.str aU)) (some (V.str gV)) (some (V.str dd)) (some (V.str "")) (some (V.str (iK x))) none none none,T⟩=
   .ok .next ⟨fW (some (V.str (fB x))) (some (V.str aU)) (some (V.str gV)) (some (V.str dd)) (some (V.str "")) (some (V.str (iK x))) (some (.ref T.length)) none none,T++[.list ((dJ (fB x) aU).map .str)]⟩:=by
  simp only[Va,Ou,acy,aC.bind_ok,z6,I5 hr,fG,acB]
 have h5:Vb (aG (d+2)) ⟨fW (some (V.str (fB x))) (some (V.str aU)) (some (V.str gV)) (some (V.str dd)) (some (V.str "")) (some (V.str (iK x))) (some (.ref T.length)) none none,T++[.list ((dJ (fB x) aU).map .str)]⟩=
   .ok .next ⟨fW (some (V.str (fB x))) (some (V.str aU)) (some (V.str gV)) (some (V.str dd)) (some (V.str "")) (some (V.str (iK x))) (some (.ref T.length)) (some (.ref (T.length+1))) none,T++[.list ((dJ (fB x) aU).map .str)]++[.list []]⟩:=by
  simp only[Vb,aC.bind_ok,fG,aix,aq,aZ,cR]
 refine⟨J++[.list ((dJ (fB x) aU).map .str),.list ((j6 x).map .str)],?_⟩;have hset:(T++[O.list ((dJ (fB x) aU).map .str)]++[O.list []]).set (T.length+1) (.list ((j6 x).map .str))=S++(J++[.list ((dJ (fB x) aU).map .str),.list ((j6 x).map .str)]):=by
  rw[<-aj,hTg];simp[gY]
 have h6:Vd (aG (d+2)) ⟨fW (some (V.str (fB x))) (some (V.str aU)) (some (V.str gV)) (some (V.str dd)) (some (V.str "")) (some (V.str (iK x))) (some (.ref T.length)) (some (.ref (T.length+1))) none,T++[.list ((dJ (fB x) aU).map .str)]++[.list []]⟩=
   .ok .next ⟨fW (some (V.str (fB x))) (some (V.str aU)) (some (V.str gV)) (some (V.str dd)) (some (V.str "")) (some (V.str (iK x))) (some (.ref T.length)) (some (.ref (T.length+1))) o8,S++(J++[.list ((dJ (fB x) aU).map .str),.list ((j6 x).map .str)])⟩:=by
  simp only[Vd,acA,aC.bind_ok,lV,(jd (by simp) (by rw[au];exact hsp):fD (.ref T.length) ⟨fW (some (.str (fB x))) (some (.str aU)) (some (.str gV)) (some (.str dd)) (some (.str "")) (some (.str (iK x))) (some (.ref T.length)) (some (.ref (T.length+1))) none,T++[.list ((dJ (fB x) aU).map .str)]++[.list []]⟩=some ((dJ (fB x) aU).map .str)),hloop];simp only[<-hset];rfl
 have eN:(S++(J++[.list ((dJ (fB x) aU).map .str),.list ((j6 x).map .str)]))[T.length+1]?=some (.list ((j6 x).map .str)):=by
  rw[<-hset];exact bR (by simp)
 refine(congrArg (λ r=>sV l (aA r _)) h4).trans ?_;simp only[aQ];refine(congrArg (λ r=>sV l (aA r _)) h5).trans ?_;rw[aQ,h6];simp only[ac0,ac1,aiw,aiu,acy,acA,acB,acw,aC.bind_ok,aQ,nq,wz eN hn hl,add_str hj];have tz:∀Y,cL (.str (iK x++Str.join aU (j6 x))) Y=some (!decide (iK x++Str.join aU (j6 x)=mt)):=λ Y=>by rw[lH _ (by rw[Str.length_append];exact hj),oE]
 by_cases hq:iK x++Str.join aU (j6 x)=mt
 ·have dq:=decide_eq_true hq;have hN:I6 x=gV:=if_pos hq;simp only[Ve,Ou,acz,aC.bind_ok,tz,dq,bD,aO,aF,if_false,eV,jg,hN]
 ·have dq:=decide_eq_false hq;have hN:I6 x=iK x++Str.join aU (j6 x):=if_neg hq;simp only[Ve,Ou,acz,aC.bind_ok,tz,dq,bH,aO,if_true,eV,jg,hN]
theorem I7{ok:St->Bool}{body:V->St->aC Fl}{v:V}{Y Y':St}(h1:ok Y=true)(hb:body v Y=.ok .next Y')(h2:ok Y'=true):qJ ok body [v] Y=.ok .next Y':=by
 show(if ok Y=true then(body v Y).bindN _ else _)=_;rw[if_pos h1,hb];exact if_pos h2
theorem jZ{m:Nat}{L L':List (Str×Option V)}{S S':List O}{xs:List V}(h:S[m]?=some (.tup xs))(h':S'[m]?=some (.tup xs)):cW (.ref m) ⟨L,S⟩ ⟨L',S'⟩=true:=Ag h h' rfl
theorem nD{m:Nat}{L:List (Str×Option V)}{S:List O}{xs:List V}(h:S[m]?=some (.tup xs))(hs:small xs.length=true):fD (.ref m) ⟨L,S⟩=some xs:=(Nh h).trans (if_pos hs)
theorem qY{x:Str}(hx:small x.length=true)(Y:St):gH .startswith (.str x) [.str aU] Y=.ok (.bool (gK x aU)) Y:=if_pos (by rw[hx];rfl)
theorem Xo{x:Str}(hx:small x.length=true)(Y:St):gH .endswith (.str x) [.str aU] Y=.ok (.bool (lM x aU)) Y:=if_pos (by rw[hx];rfl)
theorem iadd_str{x y:Str}(h:small (x.length+y.length)=true)(Y:St):sY .Add (.str x) (.str y) Y=.ok (.str (x++y)) Y:=if_pos h
noncomputable def wZ(a b:Str):Str:=if gK b aU=true\/a=mt then b else if lM a aU=true then a++b else a++(aU++b)
theorem ZR(d:Nat)(a b:Str)(l)(S:List O)(h:small (a.length+(1+b.length))=true):
  ∃J,aG (d+2) 242 [.str a,.str b] ⟨l,S⟩=.ok (.str (wZ a b)) ⟨l,S++J⟩:=by
 rw[fZ (L:=pB (some (.str a)) (some (.ref S.length)) none none none) (S₁:=S++[.tup [.str b]]) (by kernel_rfl),acM];have ha:small a.length=true:=je (by simp) h;have hb:small b.length=true:=je (by lia) h;have turn:∀T:List O,mL (aG (d+1)) ⟨pB (some (.str a)) (some (.ref S.length)) (some (.str aU)) (some (.str a)) (some (.str b)),T⟩=
   .ok .next ⟨pB (some (.str a)) (some (.ref S.length)) (some (.str aU)) (some (.str (wZ a b))) (some (.str b)),T++dM⟩:=λ T=>by
  have tr:∀Y,cL (.str a) Y=some (!decide (a=mt)):=λ Y=>by rw[lH _ ha,oE]
  unfold wZ;by_cases h1:gK b aU=true
  ·rw[if_pos (.inl h1)];simp only[mL,oh,ou,tY,qw,Ot,Oo,Ii,Ih,aC.bind_ok,gU,aQ,nu,qY hb,dW,aO,h1,if_true]
  ·have h1':=kI.mpr h1;by_cases h2:a=mt
   ·have d2:=decide_eq_true h2;rw[if_pos (.inr h2)];simp only[mL,oh,ou,tY,qw,Ot,Oo,Oq,Ii,Ih,aC.bind_ok,gU,aQ,nu,qY hb,dW,aO,h1',aF,if_false,tr,d2,bD,bH,if_true]
   ·have d2:=decide_eq_false h2;rw[if_neg (λ q=>q.elim h1 h2)];by_cases h3:lM a aU=true
    ·rw[if_pos h3];simp only[mL,oh,ou,tZ,qx,uJ,rJ,Ot,Oo,Oq,Ii,Ih,aC.bind_ok,gU,aQ,nu,LK,qY hb,Xo ha,dW,aO,h1',aF,if_false,tr,d2,bD,bH,if_true,h3,iadd_str (je (show a.length+b.length<=_ by simp) h)]
    ·have h3':=kI.mpr h3;rw[if_neg h3];simp only[mL,oh,ou,tZ,qx,uK,rK,Ot,Oo,Oq,Ii,Ih,aC.bind_ok,gU,aQ,nu,LK,qY hb,Xo ha,dW,aO,h1',aF,if_false,tr,d2,bD,bH,if_true,h3',add_str (je (show 1+b.length<=_ by simp) h:small (aU.length+b.length)=true),iadd_str (by rw[Str.length_append];exact h:small (a.length+(aU++b).length)=true)]
 have eA:(S++[O.tup [V.str b]]++dM)[S.length]?=some (.tup [.str b]):=tX ..;have eA':(S++[O.tup [V.str b]]++dM++dM)[S.length]?=some (.tup [.str b]):=by rw[aj (S++_)];exact tX ..
 refine⟨[.tup [.str b]]++dM++dM,?_⟩;have hfor:Dp (aG (d+1)) ⟨pB (some (.str a)) (some (.ref S.length)) (some (.str aU)) (some (.str a)) none,S++[.tup [.str b]]++dM⟩=
   .ok .next ⟨pB (some (.str a)) (some (.ref S.length)) (some (.str aU)) (some (.str (wZ a b))) (some (.str b)),S++[.tup [.str b]]++dM++dM⟩:=by
  simp only[Dp,aie,aC.bind_ok,lV,nD eA (by rfl)];rw[I7 (jZ eA eA) ((congrArg (mL (aG (d+1))) (Ii ..)).trans (turn _)) (jZ eA eA')];rfl
 have htry:U8 (aG (d+1)) ⟨pB (some (.str a)) (some (.ref S.length)) (some (.str aU)) (some (.str a)) none,S++[.tup [.str b]]++dM⟩=
   .ok .next ⟨pB (some (.str a)) (some (.ref S.length)) (some (.str aU)) (some (.str (wZ a b))) (some (.str b)),S++[.tup [.str b]]++dM++dM⟩:=by
  unfold U8 Bb W8;rw[hfor];rfl
 simp only[aki,acI,acJ,acK,aic,aid,aif,Ih,aC.bind_ok,aQ,gU,Fv,htry,acL,Oq,eV,jg];simp only[aj]
theorem aeu{x:Str}(hx:small x.length=true)(Y:St):gH .rfind (.str x) [.str aU] Y=.ok (.int (nM x aU)) Y:=if_pos (by rw[hx];rfl)
theorem ZS{x:Str}(hx:small x.length=true)(Y:St):gH .rstrip (.str x) [.str aU] Y=.ok (.str (w7 x aU)) Y:=if_pos (by rw[hx];rfl)
theorem LR{x:Str}(hx:small x.length=true)(Y:St):gH .lstrip (.str x) [.str aU] Y=.ok (.str (mF x aU)) Y:=if_pos (by rw[hx];rfl)
theorem add_int(i j:Int)(Y:St):ru (.int i) (.int j) Y=.ok (.int (i+j)) Y:=rfl
theorem len_str{x:Str}(hx:small x.length=true)(Y:St):zH [.str x] Y=.ok (.int x.length) Y:=if_pos hx
theorem Ma{n:Nat}(hn:small n=true)(Y:St):GJ (.str aU) (.int n) Y=.ok (.str (Txt.mul aU n)) Y:=if_pos (decide_eq_true ⟨by decide+kernel,by lia,by simpa using hn⟩)
noncomputable def w5(x:Str):Str:=dF x none (some (nM x aU+1))
noncomputable def ajr(x:Str):Str:=if w5 x≠mt/\w5 x≠Txt.mul aU (w5 x).length then w7 (w5 x) aU else w5 x
theorem PB(d:Nat)(x:Str)(l)(S:List O)(hx:small x.length=true)(hi: -1000000<=nM x aU+1/\nM x aU+1<=1000000):
  aG (d+2) 256 [.str x] ⟨l,S⟩=.ok (.str (ajr x)) ⟨l,S++dM⟩:=by
 rw[fZ (L:=xT (some (.str x)) none none none) (S₁:=S) (by kernel_rfl),acV];have hh:small (w5 x).length=true:=je (Txt.slice_le _ _ _) hx;have hs:∀Y,d9 (.str x) .none (.int (nM x aU+1)) Y=.ok (.str (w5 x)) Y:=λ Y=>by
  unfold d9;rw[show rz (.int (nM x aU+1))=_ from if_pos hi];exact if_pos hx
 have tr:∀Y,cL (.str (w5 x)) Y=some (!decide (w5 x=mt)):=λ Y=>by rw[lH _ hh,oE]
 simp only[akk,acR,acS,acT,acU,ail,aim,U6,ain,aio,aip,acv,aC.bind_ok,aQ,gU,Fv,V9,aeu hx,add_int,hs];unfold ajr;by_cases h1:w5 x=mt
 ·have d1:=decide_eq_true h1;rw[if_neg (λ q=>q.1 h1)];simp only[Ow,U7,aC.bind_ok,tr,d1,bD,bH,aO,if_true,aF,if_false,aQ,Ox,eV,jg]
 ·have d1:=decide_eq_false h1;by_cases h2:w5 x=Txt.mul aU (w5 x).length
  ·have d2:=decide_eq_true h2;rw[if_neg (λ q=>q.2 h2)];simp only[Ow,U7,U6,aC.bind_ok,tr,d1,bD,bH,aO,if_true,aF,if_false,len_str hh,Ma hh,ne_str,qN,d2,aQ,Ox,eV,jg]
  ·have d2:=decide_eq_false h2;rw[if_pos ⟨h1,h2⟩];simp only[Ow,Xc,K3,U7,U6,acv,aC.bind_ok,tr,d1,bD,bH,aO,if_true,aF,if_false,len_str hh,Ma hh,ne_str,qN,d2,R7,ZS hh,aQ,Ox,eV,jg]
theorem PJ(d:Nat)(x:Str)(l)(S:List O)(hx:small x.length=true)(h0:gK x aU=true){v:Str}(hn:∀l (S:List O),8<=S.length->∃J,aG (d+3) 263 [.str x] ⟨l,S⟩=.ok (.str v) ⟨l,S++J⟩)(hk:8<=S.length):
  ∃J,aG (d+4) 270 [.str x] ⟨l,S⟩=.ok (.str v) ⟨l,S++J⟩:=by
 rw[fZ (L:=Ze (some (.str x))) (S₁:=S) (by kernel_rfl),ac6];obtain⟨J,hJ⟩:=hn (Ze (some (.str x))) (S++dM) (rI hk);refine⟨dM++J,?_⟩;rw[<-aj];have hst:∀Y,gH .startswith (.str x) [.str ("/":Str)] Y=.ok (.bool (gK x aU)) Y:=λ Y=>qY hx Y
 simp only[akm,ac3,ac4,Xe,K7,ac5,aiz,aiA,aC.bind_ok,aQ,gU,oA,dW,aO,if_false,aF,nu,hst,h0,bD,hJ,eV,jg]
noncomputable def eG:List Str->List Str->List Str
 |x::xs,y::ys=>if x=y then x::eG xs ys else []
 |_,_=>[]
theorem yQ:∀xs ys,eG xs ys=eG ys xs
 |[],[]=>rfl
 |[],_::_=>rfl
 |_::_,[]=>rfl
 |x::xs,y::ys=>by
  dsimp only[eG];by_cases h:x=y
  ·rw[if_pos h,if_pos h.symm,yQ xs ys,h]
  ·rw[if_neg h,if_neg (λ q=>h q.symm)]
theorem ZV:∀xs,eG xs xs=xs
 |[]=>rfl
 |x::xs=>by unfold eG;rw[if_pos rfl,ZV xs]
theorem j5:∀xs ys,xs.take (eG xs ys).length=eG xs ys
 |[],[]=>rfl
 |[],_::_=>rfl
 |_::_,[]=>rfl
 |x::xs,y::ys=>by
  dsimp only[eG];by_cases h:x=y
  ·rw[if_pos h];show x::xs.take _=_;rw[j5 xs ys]
  ·rw[if_neg h];rfl
theorem yR(xs ys:List Str):(eG xs ys).length<=xs.length:=by
 have h:=congrArg yh (j5 xs ys);rw[pO]at h;lia
theorem agd(x:Str):p8 x x=false:=decide_eq_false (List.lt_irrefl _)
theorem R8{x y:Str}(h:p8 x y=true):p8 y x=false:=decide_eq_false (List.lt_asymm (of_decide_eq_true h))
theorem R9{x y:Str}(h1:p8 x y=false)(h2:p8 y x=false):x=y:=
 qC (List.le_antisymm (List.not_lt.mp (of_decide_eq_false h2)) (List.not_lt.mp (of_decide_eq_false h1)))
theorem tD(x y:Str)(xs ys:List Str):fj (x::xs) (y::ys)=if x=y then fj xs ys else p8 x y:=by
 show(if(x==y)=true then fj xs ys else p8 x y)=_;by_cases h:x=y
 ·rw[if_pos h,if_pos (by rw[h];exact beq_self_eq_true y)]
 ·rw[if_neg h,if_neg (λ q=>h (eq_of_beq q))]
theorem Fx:∀xs,fj xs xs=false
 |[]=>rfl
 |x::xs=>by rw[tD,if_pos rfl,Fx xs]
theorem BR:∀xs ys,fj xs ys=true->fj ys xs=false:=by
 intro xs;induction xs with
 |nil=>
  intro ys h;rcases ys with _|⟨y,ys⟩
  ·rfl
  ·rfl
 |cons x xs ih=>
  intro ys h;rcases ys with _|⟨y,ys⟩
  ·exact qW h
  rw[tD]at h ⊢;by_cases e:x=y
  ·rw[if_pos e]at h;rw[if_pos e.symm];exact ih ys h
  ·rw[if_neg e]at h;rw[if_neg (λ q=>e q.symm)];exact R8 h
theorem PK:∀xs ys,fj xs ys=false->fj ys xs=false->xs=ys:=by
 intro xs;induction xs with
 |nil=>
  intro ys h _;rcases ys with _|⟨y,ys⟩
  ·rfl
  ·exact qW h.symm
 |cons x xs ih=>
  intro ys h1 h2;rcases ys with _|⟨y,ys⟩
  ·exact qW h2.symm
  rw[tD]at h1 h2;by_cases e:x=y
  ·rw[if_pos e]at h1;rw[if_pos e.symm]at h2;rw[e,ih ys h1 h2]
  ·rw[if_neg e]at h1;rw[if_neg (λ q=>e q.symm)]at h2;exact absurd (R9 h1 h2) e
noncomputable def ZW(x y:List Str):List Str:=if fj y x then y else x
noncomputable def hiS(x y:List Str):List Str:=if fj x y then y else x
theorem Sd(x y:List Str):fj (hiS x y) (ZW x y)=false:=by
 delta hiS ZW
 induction h1:fj y x<;>induction h2:fj x y<;>simp only[aF]
 ·exact Fx x
 ·exact h1
 ·exact h2
 ·rw[BR _ _ h1]at h2;contradiction
theorem Mf(x y:List Str):eG (ZW x y) (hiS x y)=eG x y:=by
 delta hiS ZW
 induction h1:fj y x<;>induction h2:fj x y<;>simp only[if_true,if_false,aF]
 ·rw[PK _ _ h2 h1]
 ·exact yQ y x
 ·rw[BR _ _ h1]at h2;contradiction
noncomputable abbrev Xp(T:List O)(e k l i:Nat):List O:=(T.set k (.eit l i)).set e (.enum k i)
set_option tactic.hygienic true in
theorem Sg{e k l:Nat}{Lc:Option V->Option V->List (Str×Option V)}{T:List O}{body:Nat->V->St->aC Fl}{R:Nat->Str->aC Fl}{all ys:List Str}
  (hl:T[l]?=some (.list (all.map .str))) (hke:k≠e) (hlk:k≠l) (hle:e≠l) (hkT:k < T.length) (heT:e < T.length)
  (hR:∀i c,(∃Y,R i c=.ok .brk Y)\/∃v Y,R i c=.ok (.ret v) Y)
  (hb:∀i c y oi oc,i < all.length->ys[i]?=some y->body i (.str c) ⟨Lc oi oc,Xp T e k l (i+1)⟩=if c=y then .ok .next ⟨Lc (some (.int i)) (some (.str c)),Xp T e k l (i+1)⟩else R i c):
  ∀(xs:List Str) (p zs:List Str) (oi oc:Option V),ys=p++zs->p.length+xs.length=all.length->fj zs xs=false->
   ((∃c,lY e k l (all.map .str) body p.length (xs.map .str) ⟨Lc oi oc,Xp T e k l p.length⟩=R (p.length+(eG xs zs).length) c)/\eG xs zs≠xs)\/
   (∃oi' oc',lY e k l (all.map .str) body p.length (xs.map .str) ⟨Lc oi oc,Xp T e k l p.length⟩=.ok .next ⟨Lc oi' oc',(Xp T e k l all.length).set k .any⟩)/\eG xs zs=xs:=by
 have c1:∀i,(Xp T e k l i)[e]?=some (.enum k i):=λ i=>bR (by rw[dw];exact heT)
 have c2:∀i,(Xp T e k l i)[k]?=some (.eit l i):=λ i=>by rw[aY (λ q=>hke q.symm),bR hkT]
 have c3:∀i,(Xp T e k l i)[l]?=some (.list (all.map .str)):=λ i=>by rw[aY hle,aY hlk];exact hl
 have up:∀i j,((Xp T e k l i).set k (.eit l j)).set e (.enum k j)=Xp T e k l j:=λ i j=>by
  rw[List.set_comm _ _ (λ q=>hke q.symm),wH,wH]
 intro xs;induction xs with
 |nil=>
  intro p zs oi oc _ hlen _;refine .inr ⟨⟨oi,oc,?_⟩,rfl⟩;simp only[cR,Nat.add_zero]at hlen;rw[hlen];exact if_pos ⟨c1 _,c2 _,c3 _⟩
 |cons c xs ih=>
  intro p zs oi oc hys hlen hlt;induction zs with
  |nil=>contradiction
  |cons y zs=>
   simp only[aZ]at hlen;have start:lY e k l (all.map .str) body p.length ((c::xs).map .str) ⟨Lc oi oc,Xp T e k l p.length⟩=(if c=y then aC.ok Fl.next ⟨Lc (some (.int p.length)) (some (.str c)),Xp T e k l (p.length+1)⟩else R p.length c).bindN λ fl Y=>match fl with
     |.next|.cont=>lY e k l (all.map .str) body (p.length+1) (xs.map .str) Y
     |.brk=>.ok .brk Y
     |.ret v=>.ok (.ret v) Y:=by
    rw[<-hb p.length c y oi oc (by lia) (by rw[hys,cD (bV _)];simp),<-up p.length (p.length+1)];exact if_pos ⟨c1 _,c2 _,c3 _⟩
   rw[start];rw[tD]at hlt;dsimp only[eG];by_cases h:c=y
   ·rw[if_pos h.symm]at hlt;rw[if_pos h,if_pos h];have:=ih (p++[c]) zs (some (.int p.length)) (some (.str c)) (by rw[hys,h];simp) (by simp;lia) hlt;rw[aq]at this;rcases this with⟨h1,h2⟩|⟨h1,h2⟩
    ·refine .inl ⟨?_,λ q=>h2 (List.cons.inj q).2⟩;simp only[aZ,show p.length+((eG xs zs).length+1)=p.length+1+(eG xs zs).length by lia];exact h1
    ·exact .inr ⟨h1,by rw[h2]⟩
   ·rw[if_neg h,if_neg h];refine .inl ⟨?_,λ q=>by cases q⟩;refine⟨c,?_⟩;show _=R p.length c;rcases hR p.length c with⟨Y,q⟩|⟨v,Y,q⟩<;>rw[q]<;>rfl
theorem amQ(L)(S:List O)(a b:O):({loc:=L,sto:=S++[a]}:St).new b=.ok (.ref (S.length+1)) ⟨L,S++[a,b]⟩:=by
 show aC.ok (V.ref (S++[a]).length) (St.mk L (S++[a]++[b]))=_;rw[aq,aj];rfl
theorem BV{cl}{L}{S:List O}{l:Nat}{xs:List V}(e:S[l]?=some (.list xs)):gq cl .enumerate [.ref l] ⟨L,S⟩=.ok (.ref (S.length+1)) ⟨L,S++[.eit l 0,.enum S.length 0]⟩:=by
 exact(gD (gm e)).trans (amQ L S _ _)
theorem Mg{L}{S:List O}{a:Nat}{x:List Str}(e:S[a]?=some (.list (x.map .str))):yo ⟨L,S⟩ a=some x:=by
 exact(dY (gm e)).trans (m5 x)
theorem Gw{L}{S:List O}{m a b:Nat}{x y:List Str}(gt:Bool)(e:S[m]?=some (.list [.ref a,.ref b]))(ea:S[a]?=some (.list (x.map .str)))(eb:S[b]?=some (.list (y.map .str))):
  GQ gt [.ref m] ⟨L,S⟩=.ok (.ref (if(if gt then fj x y else fj y x)then b else a)) ⟨L,S⟩:=by
 refine(gD (gm e)).trans ?_;show onS (yo ⟨L,S⟩ a) _=_;rw[Mg ea];show onS (yo ⟨L,S⟩ b) _=_;rw[Mg eb];rfl
theorem ahp{S:List O}{a b:Nat}{x y:List Str}(ea:S[a]?=some (.list (x.map .str)))(eb:S[b]?=some (.list (y.map .str))):S[if fj y x then b else a]?=some (.list ((ZW x y).map .str)):=by
 unfold ZW;cases fj y x
 ·exact ea
 ·exact eb
theorem ahq{S:List O}{a b:Nat}{x y:List Str}(ea:S[a]?=some (.list (x.map .str)))(eb:S[b]?=some (.list (y.map .str))):S[if fj x y then b else a]?=some (.list ((hiS x y).map .str)):=by
 unfold hiS;cases fj x y
 ·exact ea
 ·exact eb
theorem uW(T:List O)(l i:Nat):Xp (T++[.eit l 0,.enum T.length 0]) (T.length+1) T.length l i=T++[.eit l i,.enum T.length i]:=by
 show((T++_).set _ _).set _ _=_;rw[gY,if_neg (mC _),gY,if_neg (by simp),wI,show T.length+1 - T.length=1 by simp];rfl
theorem Fy{T:List O}{L}{l:Nat}{xs:List V}{body:Nat->V->St->aC Fl}{o:St->aC Fl}(e:T[l]?=some (.list xs))(hs:small xs.length=true)(hk:8<=T.length):
  Om body o (.ref (T.length+1)) ⟨L,T++[.eit l 0,.enum T.length 0]⟩=jq (lY (T.length+1) T.length l xs body 0 xs ⟨L,T++[.eit l 0,.enum T.length 0]⟩) o:=by
 have h:MT (T.length+1) ⟨L,T++[.eit l 0,.enum T.length 0]⟩=some (T.length,l,xs):=by
  have e1:(T++[O.eit l 0,O.enum T.length 0])[T.length+1]?=some (.enum T.length 0):=jQ T _ 1;have e2:(T++[O.eit l 0,O.enum T.length 0])[T.length]?=some (.eit l 0):=jQ T _ 0;have e3:(T++[O.eit l 0,O.enum T.length 0])[l]?=some (.list xs):=by rw[cH (aN.mp e).1,e]
  refine(dY (a:=(T.length,0)) ((Cy e1 O.enum?).trans rfl)).trans ?_;refine(dY (a:=(l,0)) ((Cy e2 O.eit?).trans rfl)).trans ?_;exact congrArg (wG _) (gm e3)
 have h1:decide (k0<=T.length+1)=true:=decide_eq_true (cQ hk);have h2:decide (k0<=T.length)=true:=decide_eq_true hk;exact(gD h).trans (if_pos (by rw[hs,h1,h2];rfl))
theorem BW{L}{S:List O}{n:Nat}{xs:List Str}(e:S[n]?=some (.list (xs.map .str)))(hs:small xs.length=true){i:Nat}{y:Str}(hy:xs[i]?=some y):iz (.ref n) (.int i) ⟨L,S⟩=some (.str y):=
 yP e (by rw[au];exact hs) (Gv (by rw[au];exact(aN.mp hy).1) (by rw[au];exact hs)) (by rw[fU,hy];rfl)
theorem ajs{α:Type}(xs:List α)(i:Nat):cut none (some (i:Int)) xs=xs.take i:=by
 simp only[cut,W.kms_lo,W.kms_hi,if_neg (by simp:¬ ((i:Int) < 0)),List.drop_zero,Nat.sub_zero,Int.toNat_natCast];by_cases q:i<=xs.length
 ·rw[mG q]
 ·rw[lO (by lia),List.take_length,dU (by lia)]
theorem aev{α:Type}(xs:List α)(i:Nat):cut (some (i:Int)) none xs=xs.drop i:=by
 dsimp only[cut,W.kms_lo,W.kms_hi,Int.toNat_natCast];simp only[cut,W.kms_lo,W.kms_hi,if_neg (by simp:¬ ((i:Int) < 0))];by_cases q:i<=xs.length
 ·rw[mG q,dU (by rw[eY];exact bV _)]
 ·rw[lO (by lia),cP (bV _),List.take_nil,cP (by lia)]
theorem pY{L}{S:List O}{n:Nat}{xs:List V}(e:S[n]?=some (.list xs))(hs:small xs.length=true){i:Nat}(hi:i<=1000000):d9 (.ref n) .none (.int i) ⟨L,S⟩=.ok (.ref S.length) ⟨L,S++[.list (xs.take i)]⟩:=by
 unfold d9;rw[qX hi];show onS (St.list? ⟨L,S⟩ n) _=_;rw[gm e,<-ajs];exact if_pos hs
theorem qD{L}{S:List O}{n:Nat}{xs:List V}(e:S[n]?=some (.list xs))(hs:small xs.length=true){i:Nat}(hi:i<=1000000):d9 (.ref n) (.int i) .none ⟨L,S⟩=.ok (.ref S.length) ⟨L,S++[.list (xs.drop i)]⟩:=by
 unfold d9;rw[qX hi];show onS (St.list? ⟨L,S⟩ n) _=_;rw[gm e,<-aev];exact if_pos hs
theorem Sh{L}{S:List O}{a:Nat}{xs:List V}(e:S[a]?=some (.list xs)):nR [.ref a,.ref S.length] ⟨L,S++[.tup [.bi .list,.bi .tuple]]⟩=.ok (.bool true) ⟨L,S++[.tup [.bi .list,.bi .tuple]]⟩:=by
 have h:JW (.ref a) ⟨L,S++[.tup [.bi .list,.bi .tuple]]⟩=some .list:=by
  exact dY (a:=O.list xs) ((cH (aN.mp e).1).trans e)
 have h2:(⟨L,S++[.tup [.bi .list,.bi .tuple]]⟩:St).sto[S.length]?=some (.tup [.bi .list,.bi .tuple]):=nZ;exact if_pos ⟨h,h2⟩
theorem aK{S J:List O}{i:Nat}{o:O}(e:S[i]?=some o):(S++J)[i]?=some o:=by rw[cH (aN.mp e).1,e]
theorem akR{L}{S:List O}{n:Nat}{v:V}{xs:List V}(e:S[n]?=some (.list (v::xs)))(hs:small (v::xs).length=true):iz (.ref n) (.int 0) ⟨L,S⟩=some v:=yP e hs (Gv (i:=0) (by simp) hs) rfl
theorem Xq{a:Nat}{Y:St}:Qm [.ref a] Y=GQ false [.ref a] Y:=rfl
theorem BX(d:Nat)(l)(S:List O){m a b:Nat}{x y:List Str}(hk:8<=S.length)(em:S[m]?=some (.list [.ref a,.ref b]))(ea:S[a]?=some (.list (x.map .str)))(eb:S[b]?=some (.list (y.map .str)))
  (hx:small x.length=true) (hy:small y.length=true):
  ∃r J,aG (d+1) 221 [.ref m] ⟨l,S⟩=.ok (.ref r) ⟨l,S++J⟩/\(S++J)[r]?=some (.list ((eG x y).map .str)):=by
 rw[fZ (L:=qy (some (.ref m)) none none none none) (S₁:=S) (by kernel_rfl),adC];generalize hT:S++[O.tup [.bi .list,.bi .tuple]]=T;have tm:T[m]?=some (.list [.ref a,.ref b]):=by rw[<-hT];exact aK em
 have ta:T[a]?=some (.list (x.map .str)):=by rw[<-hT];exact aK ea
 have tb:T[b]?=some (.list (y.map .str)):=by rw[<-hT];exact aK eb
 have hi:=Sh (L:=qy (some (.ref m)) none none none none) ea;rw[hT]at hi;obtain⟨z1,hz1,z1e⟩:∃z1,(if fj y x then b else a)=z1/\T[z1]?=some (.list ((ZW x y).map .str)):=⟨_,rfl,ahp ta tb⟩;obtain⟨z2,hz2,z2e⟩:∃z2,(if fj x y then b else a)=z2/\T[z2]?=some (.list ((hiS x y).map .str)):=⟨_,rfl,ahq ta tb⟩;have b1:=λ L=>Gw (L:=L) (gt:=false) tm ta tb
 have b2:=λ L=>Gw (L:=L) (gt:=true) tm ta tb
 simp only[aF,if_false,if_true,hz1,hz2]at b1 b2;simp only[ako,adx,ady,adz,adA,aiM,Vj,Vk,aiN,aiO,aC.bind_ok,aQ,rZ em (by rfl),List.isEmpty_cons,bH,bD,aF,if_false,aO,akR em (by rfl),dX,fG,hT,hi,dW,Xq,b1,b2];have hsm:small (ZW x y).length=true:=by unfold ZW;induction fj y x<;>assumption
 have hsm2:small (hiS x y).length=true:=by unfold hiS;induction fj x y<;>assumption
 have hsz:small ((ZW x y).map V.str).length=true:=by rw[au];exact hsm
 have hlt:=Sd x y;have hpre:=Mf x y;generalize ZW x y=lo at*;generalize hiS x y=hi' at*;have hz1T:=(aN.mp z1e).1;have loop:=Sg (e:=T.length+1) (k:=T.length) (l:=z1) (Lc:=λ oi oc=>qy (some (.ref m)) (some (.ref z1)) (some (.ref z2)) oi oc) (T:=T++[.eit z1 0,.enum T.length 0]) (body:=λ i v Y=>Bg (aG d) (aX ("c":Str) v (aX ("i":Str) (.int i) Y)))
  (R:=λ i c=>.ok (.ret (.ref (T.length+2))) ⟨qy (some (.ref m)) (some (.ref z1)) (some (.ref z2)) (some (.int i)) (some (.str c)),T++[.eit z1 (i+1),.enum T.length (i+1)]++[.list ((lo.map V.str).take i)]⟩) (all:=lo) (ys:=hi')
  (aK z1e) (by simp) (by exact gb (by assumption)) (by lia) (by simp) (by simp) (λ i c=>.inr ⟨_,_,rfl⟩)
  (by
   intro i c y oi oc hi hy;rw[uW];have it:=BW (L:=qy (some (.ref m)) (some (.ref z1)) (some (.ref z2)) (some (.int i)) (some (.str c))) (aK (J:=[.eit z1 (i+1),.enum T.length (i+1)]) z2e) hsm2 hy;by_cases h:c=y
   ·have d1:=decide_eq_true h;rw[if_pos h];simp only[adf,adh,Bg,Dv,adg,Vk,ade,aC.bind_ok,it,dX,ne_str,qN,d1,bD,aO,aF,if_false,aQ]
   ·have d1:=decide_eq_false h;rw[if_neg h];simp only[adf,adh,Bg,Dv,Im,Bf,Vj,adg,Vk,ade,aC.bind_ok,it,dX,ne_str,qN,d1,bH,aO,if_true,(λ i J hi=>pY (L:=J) (aK z1e) hsz (by have:lo.length<=100000:=of_decide_eq_true hsm;lia):∀i J,i<=lo.length->d9 (.ref z1) .none (.int i) ⟨J,T++[.eit z1 (i+1),.enum T.length (i+1)]⟩=_) i _ (by exact iQ (by assumption)),eV,aq,aZ,cR])
  lo [] hi' none none rfl (by simp) hlt
 rw[cR,uW,hpre,jA]at loop;have enu:=λ L=>BV (cl:=aG d) (L:=L) z1e
 have fb:=λ L (o:St->aC Fl)=>Fy (L:=L) (body:=λ i v Y=>Bg (aG d) (aX ("c":Str) v (aX ("i":Str) (.int i) Y))) (o:=o) z1e hsz (by rw[<-hT];simp;exact iQ (by assumption))
 have hj1:S++([O.tup [.bi .list,.bi .tuple]]++([.eit z1 ((eG x y).length+1),.enum T.length ((eG x y).length+1)]++[.list ((lo.map V.str).take (eG x y).length)]))=T++[.eit z1 ((eG x y).length+1),.enum T.length ((eG x y).length+1)]++[.list ((lo.map V.str).take (eG x y).length)]:=by rw[<-hT];simp only[aj]
 have hj2:S++([O.tup [.bi .list,.bi .tuple]]++[.any,.enum T.length lo.length])=T++[.any,.enum T.length lo.length]:=by rw[<-hT];simp only[aj]
 simp only[adB,Vj,aC.bind_ok,enu,fb];rcases loop with⟨⟨c,h1⟩,h2⟩|⟨⟨oi,oc,h1⟩,h2⟩
 ·refine⟨T.length+2,[O.tup [.bi .list,.bi .tuple]]++([.eit z1 ((eG x y).length+1),.enum T.length ((eG x y).length+1)]++[.list ((lo.map V.str).take (eG x y).length)]),?_,?_⟩;rotate_left
  ·rw[hj1,cD (by simp)];simp only[aq,aZ,cR];rw[show T.length+2 - (T.length+(0+1+1))=0 by simp,<-uo,<-hpre,j5];rfl
  ·rw[h1,hj1];rfl
 ·refine⟨z1,[O.tup [.bi .list,.bi .tuple]]++[.any,.enum T.length lo.length],?_,?_⟩;rotate_left
  ·rw[hj2,aK z1e,h2]
  ·have e:(Xp (T++[O.eit z1 0,O.enum T.length 0]) (T.length+1) T.length z1 lo.length).set T.length O.any=T++[.any,.enum T.length lo.length]:=by
    rw[uW,gY,if_neg (mC _),wI];rfl
   rw[h1,hj2,e];rfl
end Mine
namespace Mine
open PySem PySem.Builtin.Str PyProof.Rows
noncomputable abbrev P(cs:List Str):Str:=Str.join aU cs
noncomputable abbrev R(cs:List Str):Str:=aU++P cs
theorem ud(x:Str):tx (aU++x)=47::tx x:=by rw[yO,IV];rfl
theorem aew{x:Str}(h:(tx x).head?≠some 47):mF (aU++x) aU=x:=by
 apply qC
 unfold mF;rw[PyProof.Rows.stripBy_eq];show(strSub _ _ _).cps.toList=_;rw[StrLaws.strSub_toList];have hc:∀c:Nat,aU.cps.contains c=(c==47):=λ c=>by
  show(#[47]:Array Nat).contains c=_;simp;rfl
 have e:((aU++x).cps.toList.takeWhile aU.cps.contains).length=1:=by
  have:(aU++x).cps.toList=47::tx x:=ud x;rw[this,List.takeWhile_cons,hc];induction q:tx x with
  |nil=>rfl
  |cons a r=>
   rw[q]at h;rw[List.takeWhile_cons,hc,(by rw[beq_eq_false_iff_ne];exact λ e=>h (by rw[e];rfl):(a==47)=false)];rfl
 simp only[stripLo,if_false,e];show((tx (aU++x)).drop 1).take ((aU++x).length - 1)=tx x;rw[iy,ud];show(tx x).take _=_;exact dU (by simp)
noncomputable def gh(cs:List Str):Prop:=dI cs+cs.length<=1000
theorem aV{n:Nat}(h:n<=100000):small n=true:=decide_eq_true h
theorem jx:∀cs:List Str,(P cs).length<=dI cs+cs.length:=by
 intro cs;induction cs with
 |nil=>exact dR _
 |cons c r ih=>
  rcases r with _|⟨d,r⟩
  ·show c.length<=c.length+0+1;simp
  have e:(P (c::d::r)).length=c.length+1+(P (d::r)).length:=by
   rw[iy,show tx (P (c::d::r))=tx c++47::tx (P (d::r))from qe c d r,iy c,iy (P (d::r)),aq,aZ];lia
  rw[e,(by unfold dI;rw[cA,jD]:dI (c::d::r)=c.length+dI (d::r)),aZ];lia
theorem wA:∀{cs:List Str}{c:Str},c∈cs->c.length<=dI cs
 |d::r,c,h=>by
  rw[(by unfold dI;rw[cA,jD]:dI (d::r)=d.length+dI r)];rcases bU.mp h with rfl|h
  ·simp
  ·have:=wA h;lia
theorem yS(a b:List Str):dI (a++b)=dI a+dI b:=by unfold dI;rw[aP,List.sum_append]
theorem PL(a:List Str):dI a.dropLast<=dI a:=by
 induction h:a.getLast? with
 |none=>rw[fO.mp h];exact bV _
 |some z=>
  obtain⟨q,rfl⟩:∃q,a=q++[z]:=by
   have hn:a≠[]:=λ q=>by rw[q]at h;contradiction
   rw[qm hn]at h;exact⟨a.dropLast,by rw[<-Option.some.inj h,jY hn]⟩
  rw[qp,yS];exact d8 _ _
theorem ZX(abs:Bool)(acc:List Str)(c:Str):dI (iU abs acc c)<=dI acc+c.length:=by
 have:=PL acc;unfold iU;split
 ·simp
 ·split
  ·rw[yS];show dI acc+(c.length+0)<=_;simp
  ·exact Nat.le_add_right_of_le (by assumption)
theorem yU(abs:Bool):∀(cs acc:List Str),dI (cs.foldl (iU abs) acc)<=dI acc+dI cs/\(cs.foldl (iU abs) acc).length<=acc.length+cs.length:=by
 intro cs;induction cs with
 |nil=>exact λ acc=>⟨bV _,bV _⟩
 |cons c r ih=>
  intro acc;have ih:=ih (iU abs acc c);have h1:=ZX abs acc c;have h2:=LQ abs acc c;rw[eU,aZ,(by unfold dI;rw[cA,jD]:dI (c::r)=c.length+dI r)];lia
theorem Sq:tx mt=[]:=by decide+kernel
theorem qO{c:Str}(h:Ok c)(h0:c≠mt)(r:List Str):(tx (P (c::r))).head?≠some 47/\P (c::r)≠mt:=by
 obtain⟨a,t,e⟩:∃a t,tx c=a::t:=by
  induction q:tx c with
  |nil=>exact absurd (qC (q.trans Sq.symm)) h0
  |cons a t=>exact⟨a,t,rfl⟩
 have e':∃t,tx (P (c::r))=a::t:=by
  induction r with
  |nil=>exact⟨t,e⟩
  |cons d r=>exact⟨t++47::tx (P (d::r)),by rw[show tx (P (c::d::r))=tx c++47::tx (P (d::r))from qe c d r,e];rfl⟩
 obtain⟨t',e'⟩:=e';exact⟨by rw[e'];exact λ q=>(λ q=>h (by rw[e,q];exact bw)) (Option.some.inj q),λ q=>by rw[q]at e';cases e'⟩
theorem I8(x:Str):iK (aU++x)=aU:=by unfold iK;rw[ud];rfl
theorem I9(x:Str):fB (aU++x)=x:=by
 unfold fB;rw[if_pos (by rw[ud];rfl)];apply qC
 rw[agb,ud];rfl
theorem akS:aU≠mt:=by decide+kernel
noncomputable def nf(cs:List Str):List Str:=cs.foldl (iU true) []
theorem BZ{cs:List Str}(hn:cs≠[])(ho:∀c∈cs,Ok c):j6 (R cs)=nf cs:=by
 unfold j6;rw[I9,I8,lg hn ho];rfl
theorem agf{cs:List Str}(hn:cs≠[])(ho:∀c∈cs,Ok c):I6 (R cs)=R (nf cs):=by
 unfold I6;rw[BZ hn ho,I8];refine if_neg λ q=>?_
 have:=congrArg tx q;rw[ud]at this;contradiction
theorem aex(d:Nat){c:Str}{r:List Str}(ho:∀x∈c::r,Ok x)(h0:c≠mt)(hf:gh (c::r))(l)(S:List O)(hk:8<=S.length):
  ∃J,aG (d+3) 263 [.str (R (c::r))] ⟨l,S⟩=.ok (.str (R (nf (c::r)))) ⟨l,S++J⟩:=by
 have hn:c::r≠[]:=by simp
 unfold gh at hf;have hj:=jx (c::r);have hff:=yU true (c::r) [];have hjn:=jx (nf (c::r));unfold nf at hjn;have s0:dI []=0:=rfl;have h:=zE d (R (c::r)) l S hk (aV (by rw[iy,ud,aZ,<-iy];lia))
  (λ q=>by have:=congrArg tx q;rw[ud]at this;contradiction)
  (λ _=>by rw[ud];exact(qO (ho c bw) h0 r).1)
  (by rw[I9,lg hn ho];intro x hx;have:=wA hx;exact aV (by lia))
  (by rw[I9,lg hn ho];exact aV (by lia))
  (by rw[BZ hn ho];unfold nf;rw[cR]at hff;exact aV (by lia))
  (by rw[BZ hn ho];unfold nf;exact aV (by lia))
  (by rw[BZ hn ho,I8];unfold nf;rw[cR]at hff;rw[iy aU];refine aV ?_;show 1+(P _).length<=_;lia)
 rw[agf hn ho]at h;exact h
theorem ahr(d:Nat){c:Str}{r:List Str}(ho:∀x∈c::r,Ok x)(h0:c≠mt)(hf:gh (c::r))(l)(S:List O)(hk:8<=S.length):
  ∃J,aG (d+4) 270 [.str (R (c::r))] ⟨l,S⟩=.ok (.str (R (nf (c::r)))) ⟨l,S++J⟩:=
 PJ d _ l S (by
  have hj:=jx (c::r);unfold gh at hf;exact aV (by rw[iy,ud,aZ,<-iy];lia)) (by rw[wu,ud];rfl) (aex d ho h0 hf) hk
end Mine
namespace Mine
open PySem
theorem uX{L}{S:List O}{n:Nat}{xs:List V}(e:S[n]?=some (.list xs))(hs:small xs.length=true):zH [.ref n] ⟨L,S⟩=.ok (.int xs.length) ⟨L,S⟩:=by
 exact(Nf (f:=O.seq?) e rfl).trans (if_pos hs)
theorem Mh{L}{S:List O}{n:Nat}{x:V}(e:S[n]?=some (.list [x])){j:Nat}(hs:small j=true):GJ (.ref n) (.int j) ⟨L,S⟩=.ok (.ref S.length) ⟨L,S++[.list (bQ j x)]⟩:=by
 show onS (St.list? ⟨L,S⟩ n) _=_;rw[gm e];exact if_pos (by rw[Int.toNat_natCast,hs];rfl)
theorem add_list{L}{S:List O}{a b:Nat}{xs ys:List V}(ea:S[a]?=some (.list xs))(eb:S[b]?=some (.list ys))(hs:small (xs.length+ys.length)=true):ru (.ref a) (.ref b) ⟨L,S⟩=.ok (.ref S.length) ⟨L,S++[.list (xs++ys)]⟩:=by
 show onS (St.list? ⟨L,S⟩ a) _=_;rw[gm ea];rw[gm eb];exact if_pos hs
theorem sub_int(i j:Int)(Y:St):nQ .Sub (.int i) (.int j) Y=.ok (.int (i - j)) Y:=rfl
theorem Xr{i j:Nat}(h:j<=i)(Y:St):nQ .Sub (.int i) (.int j) Y=.ok (.int ((i - j:Nat):Int)) Y:=by
 rw[sub_int,Int.ofNat_sub h]
theorem Ss(x:Str):Tq (.str x) .none=some false:=rfl
theorem cM{S:List O}(o:O):(S++[o])[S.length]?=some o:=nZ
theorem Wb{cs:List Str}(ho:∀c∈cs,Ok c/\c≠mt)(hs:small (P cs).length=true)(Y:St):cL (.str (P cs)) Y=some (!decide (cs=[])):=by
 rw[lH _ hs,oE];induction cs with
 |nil=>rfl
 |cons c r=>rw[decide_eq_false (qO (ho c bw).1 (ho c bw).2 r).2];rfl
theorem Jc{cl}{cs:List Str}(ho:∀c∈cs,Ok c/\c≠mt)(hs:small (P cs).length=true){live:Bool}{x sep:Str}{L}{S:List O}(hx:aH x ⟨L,S⟩=.ok (.str (P cs)) ⟨L,S⟩)(hsep:aH sep ⟨L,S⟩=.ok (.str aU) ⟨L,S⟩)(k:V->St->aC Fl):
  (((aH x ⟨L,S⟩).bind λ v Y=>bA (cL v Y) Y).bind λ b Y=>if b then(aH x Y).bind (cZ cl live ("split":Str) λ Y=>(aH sep Y).bind λ v Y=>(aC.ok [] Y).bind λ w Y=>aC.ok (v::w) Y)else(aC.ok [] Y).bind λ v Y=>Y.new (.list v)).bind k=k (.ref S.length) ⟨L,S++[.list (cs.map .str)]⟩:=by
 have t:=Wb ho hs ⟨L,S⟩;induction cs with
 |nil=>simp only[hx,aC.bind_ok,t,decide_true,bD,aO,aF,if_false,fG,gO]
 |cons c r=>
  simp only[hx,aC.bind_ok,t,(decide_eq_false (by simp):decide (c::r=[])=false),bH,aO,if_true,z6,hsep,I5 hs,(lg (cs:=c::r) (by simp) (λ x hx=>(ho x hx).1)),fG]
set_option tactic.hygienic true in
theorem aey(abs:Bool):∀(cs acc:List Str) (Q:Str->Prop),(∀c∈acc,Q c)->(∀c∈cs,c≠mt->c≠gV->Q c)->∀c∈cs.foldl (iU abs) acc,Q c:=by
 intro cs;induction cs with
 |nil=>exact λ acc Q h _=>h
 |cons c r ih=>
  intro acc Q h h2;refine ih _ Q (λ x hx=>?_) λ x hx=>h2 x (bM _ hx)
  unfold iU at hx;split at hx
  ·exact h x hx
  ·rename_i hc
   split at hx
   ·rcases aM.mp hx with hx|hx
    ·exact h x hx
    ·rw[aJ.mp hx];exact h2 c bw (λ q=>hc (.inl q)) (λ q=>hc (.inr q))
   ·exact h x (iD _ hx)
theorem ahs{cs:List Str}(ho:∀c∈cs,Ok c):∀c∈nf cs,Ok c/\c≠mt:=
 aey true cs [] (λ c=>Ok c/\c≠mt) (by simp) λ c hc h1 _=>⟨ho c hc,h1⟩
theorem PN(d:Nat){c c':Str}{r r':List Str}(ho:∀x∈c::r,Ok x)(h0:c≠mt)(hf:gh (c::r))(ho':∀x∈c'::r',Ok x)(h0':c'≠mt)(hf':gh (c'::r'))(l)(S:List O)(hk:8<=S.length)
  {i:Nat}(hi:i=(eG (nf (c'::r')) (nf (c::r))).length) {out:List Str}(hout:out=bQ ((nf (c'::r')).length - i) dd++(nf (c::r)).drop i) (hne:out≠[]):
  ∃J,aG (d+5) 278 [.str (R (c::r)),.str (R (c'::r'))] ⟨l,S⟩=.ok (.str (P out)) ⟨l,S++J⟩:=by
 rw[fZ (L:=fL (some (.str (R (c::r)))) (some (.str (R (c'::r')))) none none none none none none none none none) (S₁:=S) (by kernel_rfl),adb];have hx:small (R (c::r)).length=true:=by have:=jx (c::r);unfold gh at hf;exact aV (by rw[iy,ud,aZ,<-iy];lia)
 have d0:=decide_eq_false (λ q=>by have:=congrArg tx q;rw[ud]at this;contradiction:R (c::r)≠mt);have habs:=λ l (S:List O) (hk:8<=S.length)=>ahr d ho h0 hf l S hk
 have habs':=λ l (S:List O) (hk:8<=S.length)=>ahr d ho' h0' hf' l S hk
 have fit:∀cs:List Str,gh cs->dI (nf cs)+(nf cs).length<=1000:=λ cs h=>by
  have:=yU true cs [];rw[cR,show dI []=0 from rfl]at this;unfold nf;unfold gh at h;lia
 have f1:=fit _ hf;have f2:=fit _ hf';have p1:=ahs ho;have p2:=ahs ho';have eR:∀cs,(∀x∈cs,Ok x/\x≠mt)->mF (R cs) aU=P cs:=λ cs h=>aew (by
  induction cs with
  |nil=>rw[show P []=mt from rfl,Sq];nofun
  |cons c r=>exact(qO (h c bw).1 (h c bw).2 r).1)
 have r1:=eR _ p1;have r2:=eR _ p2;generalize R (c::r)=X at*;generalize R (c'::r')=X' at*;generalize nf (c'::r')=as at*;generalize nf (c::r)=ps at*;have s1:small (R ps).length=true:=by have:=jx ps;exact aV (by rw[iy,ud,aZ,<-iy];lia)
 have s2:small (R as).length=true:=by have:=jx as;exact aV (by rw[iy,ud,aZ,<-iy];lia)
 have hile:i<=as.length:=by rw[hi];exact yR _ _
 obtain⟨J1,hJ1⟩:=habs' (fL (some (.str X)) (some (.str X')) (some (.str gV)) (some (.str aU)) (some (.str dd)) none none none none none none) (S++dM++dM) (rI (rI hk));generalize hS1:S++dM++dM++J1=S1 at hJ1;have k1:8<=S1.length:=hS1▸rI (rI (rI hk));obtain⟨J2,hJ2⟩:=habs (fL (some (.str X)) (some (.str X')) (some (.str gV)) (some (.str aU)) (some (.str dd)) (some (.str (P as))) none none none none none) S1 k1;generalize hS2:S1++J2=S2 at hJ2;obtain⟨rr,J3,hJ3,hr⟩:=BX (d+3) (fL (some (.str X)) (some (.str X')) (some (.str gV)) (some (.str aU)) (some (.str dd)) (some (.str (P as))) (some (.str (P ps))) (some (.ref S2.length)) (some (.ref (S2.length+1))) none none)
  (S2++[.list (as.map .str)]++[.list (ps.map .str)]++[.list [.ref S2.length,.ref (S2.length+1)]]) (m:=S2.length+2) (a:=S2.length) (b:=S2.length+1) (x:=as) (y:=ps) (rI (rI (rI (hS2▸rI k1)))) (at3 S2 _ _ _ 2) (at3 S2 _ _ _ 0) (at3 S2 _ _ _ 1) (aV (by lia)) (aV (by lia))
 generalize hS3:S2++[.list (as.map .str)]++[.list (ps.map .str)]++[.list [.ref S2.length,.ref (S2.length+1)]]++J3=S3 at hJ3 hr;have ea:S3[S2.length]?=some (.list (as.map .str)):=hS3▸aK (at3 S2 _ _ _ 0);have ep:S3[S2.length+1]?=some (.list (ps.map .str)):=hS3▸aK (at3 S2 _ _ _ 1);have hl1:=λ L=>uX (L:=L) hr (by rw[au];exact aV (by rw[<-hi];lia))
 rw[au,<-hi]at hl1;obtain⟨J,hJ⟩:S <+: S3++[O.list [.str dd]]++[O.list (bQ (as.length - i) (.str dd))]++[O.list ((ps.map V.str).drop i)]++[O.list (out.map .str)]:=
  kj (kj (kj (kj (hS3▸kj (kj (kj (kj (hS2▸kj (hS1▸kj (kj (bC ..) _) _) _) _) _) _) _) _) _) _) _
 replace hJ:=hJ.symm;refine⟨J,?_⟩;have hfs:=λ y l S=>gU (d+3) y l S
 simp only[akn,ac7,ac8,ac9,Xf,K8,K9,La,ada,Xh,Lb,aiB,aiD,aiC,aiE,aiF,aiG,aiI,aC.bind_ok,aQ,gU,lH _ hx,oE,d0,bH,bD,oA,dW,aO,if_false,aF,Ss];have q0:Ld (aG (d+4)) ⟨fL (some (.str X)) (some (.str X')) (some (.str gV)) (some (.str aU)) (some (.str dd)) none none none none none none,S++dM++dM⟩=.ok .next ⟨fL (some (.str X)) (some (.str X')) (some (.str gV)) (some (.str aU)) (some (.str dd)) (some (.str (P as))) none none none none none,S1⟩:=by
  rw[<-r2];exact bd (bd (bd rfl hJ1) ((Fw _ _).trans (LR s2 _))) rfl
 have q1:Le (aG (d+4)) ⟨fL (some (.str X)) (some (.str X')) (some (.str gV)) (some (.str aU)) (some (.str dd)) (some (.str (P as))) none none none none none,S1⟩=.ok .next ⟨fL (some (.str X)) (some (.str X')) (some (.str gV)) (some (.str aU)) (some (.str dd)) (some (.str (P as))) (some (.str (P ps))) none none none none,S2⟩:=by
  rw[<-r1];exact bd (bd (bd rfl hJ2) ((Fw _ _).trans (LR s1 _))) rfl
 have q2:Lg (aG (d+4)) ⟨fL (some (.str X)) (some (.str X')) (some (.str gV)) (some (.str aU)) (some (.str dd)) (some (.str (P as))) (some (.str (P ps))) none none none none,S2⟩=.ok .next ⟨fL (some (.str X)) (some (.str X')) (some (.str gV)) (some (.str aU)) (some (.str dd)) (some (.str (P as))) (some (.str (P ps))) (some (.ref S2.length)) none none none,S2++[.list (as.map .str)]⟩:=
  Jc p2 (by have:=jx as;exact aV (by lia)) rfl rfl _
 have q3:Lh (aG (d+4)) ⟨fL (some (.str X)) (some (.str X')) (some (.str gV)) (some (.str aU)) (some (.str dd)) (some (.str (P as))) (some (.str (P ps))) (some (.ref S2.length)) none none none,S2++[.list (as.map .str)]⟩=.ok .next ⟨fL (some (.str X)) (some (.str X')) (some (.str gV)) (some (.str aU)) (some (.str dd)) (some (.str (P as))) (some (.str (P ps))) (some (.ref S2.length)) (some (.ref (S2.length+1))) none none,S2++[.list (as.map .str)]++[.list (ps.map .str)]⟩:=by
  refine(Jc p1 (by have:=jx ps;exact aV (by lia)) rfl rfl _).trans ?_;rw[aq];rfl
 have q4:Ds (aG (d+4)) ⟨fL (some (.str X)) (some (.str X')) (some (.str gV)) (some (.str aU)) (some (.str dd)) (some (.str (P as))) (some (.str (P ps))) (some (.ref S2.length)) (some (.ref (S2.length+1))) none none,S2++[.list (as.map .str)]++[.list (ps.map .str)]⟩=.ok .next ⟨fL (some (.str X)) (some (.str X')) (some (.str gV)) (some (.str aU)) (some (.str dd)) (some (.str (P as))) (some (.str (P ps))) (some (.ref S2.length)) (some (.ref (S2.length+1))) (some (.int i)) none,S3⟩:=by
  simp only[Ds,acC,acD,aC.bind_ok,fG,aq,aZ,cR,jA,ug,Nat.reduceAdd,hJ3,hS3,hl1,aiK]
 have q5:Dt (aG (d+4)) ⟨fL (some (.str X)) (some (.str X')) (some (.str gV)) (some (.str aU)) (some (.str dd)) (some (.str (P as))) (some (.str (P ps))) (some (.ref S2.length)) (some (.ref (S2.length+1))) (some (.int i)) none,S3⟩=.ok .next ⟨fL (some (.str X)) (some (.str X')) (some (.str gV)) (some (.str aU)) (some (.str dd)) (some (.str (P as))) (some (.str (P ps))) (some (.ref S2.length)) (some (.ref (S2.length+1))) (some (.int i)) (some (.ref (S3.length+3))),S++J⟩:=by
  have l1:=λ L=>uX (L:=L) (aK (J:=[O.list [.str dd]]) ea) (by rw[au];exact aV (by lia))
  have l2:=λ L=>Mh (L:=L) (cM (S:=S3) (.list [.str dd])) (j:=as.length - i) (aV (by lia))
  have l3:=λ L=>qD (L:=L) (aK (J:=[O.list (bQ (as.length - i) (.str dd))]) (aK (J:=[O.list [.str dd]]) ep)) (by rw[au];exact aV (by lia)) (i:=i) (by lia)
  have l4:=λ L=>add_list (L:=L) (aK (J:=[O.list ((ps.map V.str).drop i)]) (cM (S:=S3++[O.list [.str dd]]) (O.list (bQ (as.length - i) (.str dd))))) (cM (S:=S3++[O.list [.str dd]]++[O.list (bQ (as.length - i) (.str dd))]) (.list ((ps.map V.str).drop i))) (by rw[j8,eY,au];exact aV (by lia))
  rw[au]at l1;have eo:bQ (as.length - i) (V.str dd)++(ps.map V.str).drop i=out.map .str:=by rw[hout,aP,List.map_replicate,List.map_drop]
  rw[eo,hJ]at l4;simp only[Dt,aiH,acC,aiJ,acD,aC.bind_ok,fG,l1,Xr hile,l2,l3,l4,afN];simp only[aq,aZ,cR,jA,ug,Nat.reduceAdd]
 have eo:(S++J)[S3.length+3]?=some (.list (out.map .str)):=by rw[<-hJ,aj,aj,aj];exact jQ S3 _ 3
 have olen:out.length<=2000:=by rw[hout,aq,j8,eY];lia
 have osum:dI out<=3000:=by
  have e1:∀n,dI (bQ n dd)<=2*n:=λ n=>by
   induction n with
   |zero=>exact dR _
   |succ n ih=>
    rw[lW];unfold dI at ih ⊢;rw[cA,jD];have:dd.length=2:=by decide+kernel
    lia
  have e2:dI (ps.drop i)<=dI ps:=by
   have:=yS (ps.take i) (ps.drop i);rw[j9]at this;lia
  have:=e1 (as.length - i);rw[hout,yS];lia
 have q6:Li (aG (d+4)) ⟨fL (some (.str X)) (some (.str X')) (some (.str gV)) (some (.str aU)) (some (.str dd)) (some (.str (P as))) (some (.str (P ps))) (some (.ref S2.length)) (some (.ref (S2.length+1))) (some (.int i)) (some (.ref (S3.length+3))),S++J⟩=.ok .next ⟨fL (some (.str X)) (some (.str X')) (some (.str gV)) (some (.str aU)) (some (.str dd)) (some (.str (P as))) (some (.str (P ps))) (some (.ref S2.length)) (some (.ref (S2.length+1))) (some (.int i)) (some (.ref (S3.length+3))),S++J⟩:=by
  have t:=λ L=>rZ (L:=L) eo (by rw[au];exact aV (by lia))
  have:(out.map V.str).isEmpty=false:=by induction out with|nil=>exact absurd rfl hne|cons _ _=>rfl
  rw[this]at t;exact bd (bd (bd rfl (ob (t _))) rfl) rfl
 have jo:=λ L=>wz (L:=L) eo (aV (by lia)) (aV (by lia))
 have q7:Lj (aG (d+4)) ⟨fL (some (.str X)) (some (.str X')) (some (.str gV)) (some (.str aU)) (some (.str dd)) (some (.str (P as))) (some (.str (P ps))) (some (.ref S2.length)) (some (.ref (S2.length+1))) (some (.int i)) (some (.ref (S3.length+3))),S++J⟩=.ok (.ret (.str (P out))) ⟨fL (some (.str X)) (some (.str X')) (some (.str gV)) (some (.str aU)) (some (.str dd)) (some (.str (P as))) (some (.str (P ps))) (some (.ref S2.length)) (some (.ref (S2.length+1))) (some (.int i)) (some (.ref (S3.length+3))),S++J⟩:=by
  exact bd (bd rfl ((nq _ _).trans (jo _))) rfl
 have qq:Xi (aG (d+4)) ⟨fL (some (.str X)) (some (.str X')) (some (.str gV)) (some (.str aU)) (some (.str dd)) none none none none none none,S++dM++dM⟩=.ok (.ret (.str (P out))) ⟨fL (some (.str X)) (some (.str X')) (some (.str gV)) (some (.str aU)) (some (.str dd)) (some (.str (P as))) (some (.str (P ps))) (some (.ref S2.length)) (some (.ref (S2.length+1))) (some (.int i)) (some (.ref (S3.length+3))),S++J⟩:=by
  exact th q0 (th q1 (th q2 (th q3 (th q4 (th q5 (th q6 (congrArg (λ r=>aA r λ Y=>.ok .next Y) q7)))))))
 have q9:Vi (aG (d+4)) ⟨fL (some (.str X)) (some (.str X')) (some (.str gV)) (some (.str aU)) (some (.str dd)) none none none none none none,S++dM++dM⟩=.ok (.ret (.str (P out))) ⟨fL (some (.str X)) (some (.str X')) (some (.str gV)) (some (.str aU)) (some (.str dd)) (some (.str (P as))) (some (.str (P ps))) (some (.ref S2.length)) (some (.ref (S2.length+1))) (some (.int i)) (some (.ref (S3.length+3))),S++J⟩:=by
  unfold Vi Bb;rw[qq]
 refine(congrArg (λ r=>sV l (aA r _)) q9).trans rfl
theorem Sv{σ₂:St}{acc:Nat}{ys:List V}{y:V}{g:St->aC Unit}(h3:σ₂.sto[acc]?=some (.list ys))(hk:8<=acc)(hs:small ys.length=true):(onS ((σ₂.sto[acc]?).bind (ahE true y)) λ o=>grd (decide (k0<=acc)) (g (σ₂.upd acc o)))=g (σ₂.upd acc (.list (ys++[y]))):=by
 rw[h3];exact(gD (if_pos hs)).trans (if_pos (decide_eq_true hk))
inductive aht(ifs:St->aC Bool)(elt:St->aC V)(acc:Nat)(I:List V->St->Prop)(ys:List V)(Y:St):Prop
 |skip {σ₁:St}(e:ifs Y=.ok false σ₁) (h:I ys σ₁)
 |put {σ₁:St}{y:V}{σ₂:St}(e:ifs Y=.ok true σ₁) (e2:elt σ₁=.ok y σ₂) (e3:σ₂.sto[acc]?=some (.list ys)) (hs:small ys.length=true) (h:I (ys++[y]) (σ₂.upd acc (.list (ys++[y]))))
inductive aez(I:List V->St->Prop)(r:aC Unit):Prop
 |mk (ys:List V) (Y':St) (e:r=.ok () Y') (h:I ys Y')
theorem Z0{α:Type}{f:α->V}{ok:St->Bool}{x:Str}{ifs:St->aC Bool}{elt:St->aC V}{acc:Nat}(I:List α->List V->St->Prop)(hk:8<=acc)(hok:∀r ys Y,I r ys Y->ok Y=true)
  (hb:∀v r ys Y,I (v::r) ys Y->aht ifs elt acc (I r) ys {Y with loc:=dH Y.loc x (f v)}) (xs:List α):∀ys Y,I xs ys Y->aez (I []) (lX true ok x ifs elt acc (xs.map f) Y):=by
 induction xs with
 |nil=>exact λ ys Y h=>⟨ys,Y,if_pos (hok _ _ _ h),h⟩
 |cons v r ih=>
  intro ys Y h;show aez _ (grd (ok Y) _);rw[hok _ _ _ h];show aez _ (aC.bindN _ _);induction hb v r ys Y h with
  |skip h1 h2=>rw[h1];exact ih ys _ h2
  |put h1 h2 h3 h4 h5=>
   simp only[h1,h2,aC.bindN_ok,Sv h3 hk h4];exact ih _ _ h5
inductive akT(I:List V->St->Prop)(n:Nat)(L:List (Str×Option V))(r:aC V):Prop
 |mk (ys:List V) (Y':St) (e:r=.ok (.ref n) ⟨L,Y'.sto⟩) (h:I ys Y')
theorem Wc{α:Type}{f:α->V}{x:Str}{ifs:St->aC Bool}{elt:St->aC V}{v:V}{L}{S:List O}{xs:List α}(hi:fD v ⟨L,S⟩=some (xs.map f))(hk:8<=S.length)(I:List α->List V->St->Prop)(hok:∀r ys Y,I r ys Y->cW v ⟨L,S⟩ Y=true)
  (hb:∀v r ys Y,I (v::r) ys Y->aht ifs elt S.length (I r) ys {Y with loc:=dH Y.loc x (f v)})
  (h0:I xs [] ⟨[],S++[.list []]⟩):akT (I []) S.length L (kh true x ifs elt v ⟨L,S⟩):=by
 obtain⟨ys,Y',h1,h2⟩:=Z0 I hk hok hb xs [] _ h0;refine⟨ys,Y',?_,h2⟩;dsimp only[kh];rw[hi];show(lX true _ x ifs elt S.length (xs.map f) ⟨[],S++[.list []]⟩).bindN _=_;rw[h1];rfl
theorem Wd{l:List (Str×Option V)}{x:Str}{v:V}(h:l=[]\/∃v,l=[(x,some v)]):dH l x v=[(x,some v)]:=by
 rcases h with rfl|⟨w,rfl⟩
 ·rfl
 ·exact if_pos (beq_self_eq_true x)
inductive akU(x:Str)(S:List O)(xs:List Str)(p:Str->Bool)(P:List O->Prop)(r:List Str)(ys:List V)(Y:St):Prop
 |mk (zs:List Str) (J:List O) (l:List (Str×Option V)) (e:Y=⟨l,S++[.list ys]++J⟩) (hl:l=[]\/∃v,l=[(x,some v)]) (hm:∀c∈r,c∈xs) (hy:ys=zs.map .str) (hz:zs++r.filter p=xs.filter p) (hn:zs.length+r.length<=xs.length) (hP:P J)
theorem Jd{f:Str->V}{x:Str}{ifs:St->aC Bool}{elt:St->aC V}{v:V}{L}{S:List O}{xs:List Str}{p:Str->Bool}{P:List O->Prop}(p0:P [])(pa:∀a b,P a->P b->P (a++b))(hi:fD v ⟨L,S⟩=some (xs.map f))(hk:8<=S.length)(hs:small xs.length=true)(hst:∀L' J,cW v ⟨L,S⟩ ⟨L',S++J⟩=true)
  (hb:∀c∈xs,∀(J:List O),∃J',ifs ⟨[(x,some (f c))],S++J⟩=.ok (p c) ⟨[(x,some (f c))],S++J++J'⟩/\P J')
  (he:∀c∈xs,∀(J:List O),elt ⟨[(x,some (f c))],S++J⟩=.ok (.str c) ⟨[(x,some (f c))],S++J⟩):
  ∃J,kh true x ifs elt v ⟨L,S⟩=.ok (.ref S.length) ⟨L,S++[.list ((xs.filter p).map .str)]++J⟩/\P J:=by
 obtain⟨ys,Y',h1,h2⟩:=Wc (f:=f) (x:=x) (ifs:=ifs) (elt:=elt) hi hk (akU x S xs p P)
  (λ r ys Y ⟨zs,J,l,e,_,_,_,_,_,_⟩=>by rw[e,aj];exact hst _ _)
  (λ c r ys Y hI=>by
   obtain⟨zs,J,l,rfl,hl,hm,rfl,hz,hn,hP⟩:=hI;refine uq λ Zz toG=>?_
   replace toG:=(Wd (v:=f c) hl)▸toG;have hc:=hm c bw;obtain⟨J',hJ',hP'⟩:=hb c hc ([.list (zs.map .str)]++J);have he':=he c hc ([.list (zs.map .str)]++(J++J'));rw[<-aj]at he';rw[<-aj,aj _ J J']at hJ';have hm':=λ y hy=>hm y (bM _ hy)
   have hPP:=pa _ _ hP hP';rw[gB]at hz;generalize J++J'=J at*;induction hp:p c with
   |false=>
    rw[hp]at hJ' hz;exact toG (.skip hJ' ⟨zs,J,_,rfl,.inr ⟨_,rfl⟩,hm',rfl,hz,Nat.le_of_succ_le hn,hPP⟩)
   |true=>
    rw[hp]at hJ' hz;refine toG (.put hJ' he' ?_ ?_ ⟨zs++[c],J,[(x,some (f c))],?_,.inr ⟨_,rfl⟩,hm',by rw[aP];rfl,by rw[aj];exact hz,by rw[aq];exact(Nat.succ_add_eq_add_succ zs.length r.length).symm▸hn,hPP⟩)
    ·show((S++[.list (zs.map .str)])++J)[S.length]?=_;simp
    ·rw[au];exact je (bT (d8 ..) hn) hs
    ·show St.mk _ (List.set (S++[.list (zs.map .str)]++J) S.length _)=_;rw[aj,gY,if_neg (mC _),wI,aj];rfl)
  ⟨[],[],[],by rw[aW],.inl rfl,λ _ h=>h,rfl,rfl,Nat.le_of_eq (jA _),p0⟩
 obtain⟨zs,J,l,rfl,-,-,rfl,hz,-,hP⟩:=h2;simp only[List.filter_nil,aW]at hz;exact⟨J,by rw[h1,hz],hP⟩
theorem qP{x:Str}{ifs:St->aC Bool}{elt:St->aC V}{v:V}{L}{S:List O}{xs:List Str}{p:Str->Bool}(hi:fD v ⟨L,S⟩=some (xs.map .str))(hk:8<=S.length)(hs:small xs.length=true)(hst:∀L' J,cW v ⟨L,S⟩ ⟨L',S++J⟩=true)
  (hb:∀c∈xs,∀(J:List O),∃J',ifs ⟨[(x,some (.str c))],S++J⟩=.ok (p c) ⟨[(x,some (.str c))],S++J++J'⟩)
  (he:∀c (J:List O),elt ⟨[(x,some (.str c))],S++J⟩=.ok (.str c) ⟨[(x,some (.str c))],S++J⟩):
  ∃J,kh true x ifs elt v ⟨L,S⟩=.ok (.ref S.length) ⟨L,S++[.list ((xs.filter p).map .str)]++J⟩:=
 let ⟨J,h,_⟩:=Jd (P:=λ _=>True) trivial (λ _ _ _ _=>trivial) hi hk hs hst (λ c hc J=>let ⟨J',h⟩:=hb c hc J;⟨J',h,trivial⟩) λ c _=>he c
 ⟨J,h⟩
open Classical in
theorem agg{d:Nat}{m kt l k:Nat}{T:List O}{L}{all:List V}(hm:T[m]?=some (.mapo 214 kt))(hkt:T[kt]?=some (.tup [.ref k]))(hl:T[l]?=some (.list all))(hk:k < T.length)(h1:k≠m)(h2:k≠kt)(h3:k≠l):
  ∀(xs:List Str) (i:Nat) (J:List O),∃J',jT (aG (d+1)) 214 m kt l k all i (xs.map .str) ⟨L,T.set k (.eit l i)++J⟩=.ok (xs.map .str) ⟨L,T.set k .any++J'⟩:=by
 have okm:∀i J,JX 214 m kt l k i all ⟨L,T.set k (.eit l i)++J⟩=true:=λ i J=>by
  refine decide_eq_true ⟨aK ?_,aK ?_,aK ?_,aK ?_⟩
  ·rw[aY h1];exact hm
  ·rw[aY h2];exact hkt
  ·exact bR hk
  ·rw[aY h3];exact hl
 have up:∀i J o,(T.set k (.eit l i)++J).set k o=T.set k o++J:=λ i J o=>by
  rw[gY,if_pos (by rw[dw];exact hk),wH]
 intro xs;induction xs with
 |nil=>
  intro i J;exact⟨J,(if_pos (okm i J)).trans (by show aC.ok [] (St.mk L ((T.set k (.eit l i)++J).set k .any))=_;rw[up];rfl)⟩
 |cons x r ih=>
  intro i J;obtain⟨J',h⟩:=ih (i+1) (J++dM);refine⟨J',(if_pos (okm i J)).trans ?_⟩;have e:({loc:=L,sto:=T.set k (.eit l i)++J}:St).upd k (.eit l (i+1))=⟨L,T.set k (.eit l (i+1))++J⟩:=by
   show St.mk L ((T.set k (.eit l i)++J).set k (.eit l (i+1)))=_;rw[up]
  simp only[e,gU,aC.bindN_ok,aj,h];rfl
theorem agh{d:Nat}{m:Nat}{S:List O}{L}{xs:List Str}(h:S[m]?=some (.list (xs.map .str)))(hs:small xs.length=true)(hk:8<=S.length):
  ∃J,(gq (aG (d+1)) .map [.fn 214,.ref m] ⟨L,S⟩)=.ok (.ref (S.length+2)) ⟨L,S++[.eit m 0,.tup [.ref S.length],.mapo 214 (S.length+1)]⟩/\
   gq (aG (d+1)) .tuple [.ref (S.length+2)] ⟨L,S++[.eit m 0,.tup [.ref S.length],.mapo 214 (S.length+1)]⟩=.ok (.ref (S.length+3+J.length)) ⟨L,S++[.any,.tup [.ref S.length],.mapo 214 (S.length+1)]++J++[.tup (xs.map .str)]⟩:=by
 have hm:=(aN.mp h).1;generalize hT:S++[O.eit m 0,.tup [.ref S.length],.mapo 214 (S.length+1)]=T;have e1:T[S.length+2]?=some (.mapo 214 (S.length+1)):=hT▸jQ S _ 2;have e2:T[S.length+1]?=some (.tup [.ref S.length]):=hT▸jQ S _ 1;have e3:T[S.length]?=some (.eit m 0):=hT▸jQ S _ 0;have e4:T[m]?=some (.list (xs.map .str)):=by rw[<-hT];exact aK h
 have hlen:T.length=S.length+3:=by rw[<-hT,aq];rfl
 obtain⟨J,hJ⟩:=agg (d:=d) (L:=L) e1 e2 e4 (by lia) (by simp) (by simp) (by exact gb (by assumption)) xs 0 [];rw[aW,xV e3]at hJ;refine⟨J,?_,?_⟩
 ·refine(gD (gm h)).trans ?_;rw[<-hT];show aC.ok (V.ref (S++[O.eit m 0,O.tup [V.ref S.length]]).length) _=_;rw[aq];show aC.ok _ (St.mk L (S++_++_))=_;rw[aj];rfl
 ·refine(gD e1).trans ?_;show onS (((T[S.length+1]?).bind O.tup?).bind rm) _=_;rw[e2];show onS ((T[S.length]?).bind O.eit?) _=_;rw[e3];show onS (St.list? ⟨L,T⟩ m) _=_;rw[gm e4];have c1:small (xs.map V.str).length=true:=by rw[au];exact hs
  have c2:decide (k0<=S.length)=true:=decide_eq_true hk;refine(if_pos (by rw[c1,c2];rfl)).trans ?_;rw[hJ,aC.bindN_ok,fG];have e5:T.set S.length .any=S++[.any,.tup [.ref S.length],.mapo 214 (S.length+1)]:=by
   rw[<-hT,gY,if_neg (mC _),wI];rfl
  rw[e5];simp only[aq,aZ,cR]
theorem Z1{L}{S:List O}{n:Nat}{v:V}{xs:List V}(e:S[n]?=some (.tup (v::xs)))(hs:small (v::xs).length=true):iz (.ref n) (.int 0) ⟨L,S⟩=some v:=(dY e).trans ((if_pos hs).trans (dY (Gv (i:=0) (Nat.succ_pos _) hs)))
theorem Z2{L}{S:List O}{n:Nat}{xs:List V}(e:S[n]?=some (.tup xs))(hs:small xs.length=true):cL (.ref n) ⟨L,S⟩=some (!xs.isEmpty):=(dY e).trans (if_pos hs)
theorem yV{L}{S:List O}{c:Nat}{v:V}{o:Option V}(e:S[c]?=some (.cell o))(hk:8<=c):Jr c v ⟨L,S⟩=.ok () ⟨L,S.set c (.cell (some v))⟩:=(gD e).trans (if_pos (decide_eq_true hk))
theorem jh{L}{S:List O}{c:Nat}{v:V}(e:S[c]?=some (.cell (some v))):uI c ⟨L,S⟩=.ok v ⟨L,S⟩:=by
 show onS ((S[c]?).bind O.cell?) _=_;rw[e];rfl
theorem xW{ok:St->Bool}{x:Str}{ifs:St->aC Bool}{elt:St->aC V}{acc:Nat}{v:V}{r:List V}{Y σ₁ σ₂:St}{b:Bool}{bs:List Bool}(h0:ok Y=true)(h1:ifs {Y with loc:=dH Y.loc x v}=.ok true σ₁)(h2:elt σ₁=.ok (.bool b) σ₂)
  (h3:σ₂.sto[acc]?=some (.bset bs)) (hk:8<=acc) (hb:bs=[]\/bs=[b]):lX false ok x ifs elt acc (v::r) Y=lX false ok x ifs elt acc r (σ₂.upd acc (.bset (if bs.contains b then bs else bs++[b]))):=by
 refine(if_pos h0).trans ?_;simp only[h1,h2,aC.bindN_ok];rw[h3];exact(gD (a:=O.bset (if bs.contains b then bs else bs++[b])) (if_pos (by rw[decide_eq_true hb];rfl))).trans (if_pos (decide_eq_true hk))
theorem w6{ok:St->Bool}{x:Str}{ifs:St->aC Bool}{elt:St->aC V}{acc:Nat}{v y:V}{r ys:List V}{Y σ₁ σ₂:St}(h0:ok Y=true)(h1:ifs {Y with loc:=dH Y.loc x v}=.ok true σ₁)(h2:elt σ₁=.ok y σ₂)
  (h3:σ₂.sto[acc]?=some (.list ys)) (hk:8<=acc) (hs:small ys.length=true):lX true ok x ifs elt acc (v::r) Y=lX true ok x ifs elt acc r (σ₂.upd acc (.list (ys++[y]))):=by
 refine(if_pos h0).trans ?_;rw[h1,aC.bindN_ok,if_pos rfl,h2,aC.bindN_ok,Sv h3 hk hs]
theorem Mi{x:Str}{ifs:St->aC Bool}{elt:St->aC V}{v a b p q:V}{L}{S J1 J2:List O}(hi:fD v ⟨L,S⟩=some [a,b])(hk:8<=S.length)(hst:∀L' J,cW v ⟨L,S⟩ ⟨L',S++J⟩=true)(ht:∀Y,ifs Y=.ok true Y)
  (h1:elt ⟨[(x,some a)],S++[.list []]⟩=.ok p ⟨[(x,some a)],S++[.list []]++J1⟩) (h2:elt ⟨[(x,some b)],S++[.list [p]]++J1⟩=.ok q ⟨[(x,some b)],S++[.list [p]]++J1++J2⟩):
  kh true x ifs elt v ⟨L,S⟩=.ok (.ref S.length) ⟨L,S++[.list [p,q]]++J1++J2⟩:=by
 have up:∀o o' (J:List O),(S++[o]++J).set S.length o'=S++[o']++J:=acs S;have st:∀L' o (J:List O),cW v ⟨L,S⟩ ⟨L',S++[o]++J⟩=true:=λ L' o J=>by rw[aj];exact hst _ _
 dsimp only[kh];rw[hi];show(lX true _ x ifs elt S.length [a,b] ⟨[],S++[.list []]⟩).bindN _=_;rw[w6 (ys:=[]) (hst _ _) (ht _) h1 (tX ..) hk rfl];rw[(by show St.mk _ _=_;rw[up];rfl:St.upd ⟨[(x,some a)],S++[.list []]++J1⟩ S.length (.list ([]++[p]))=⟨[(x,some a)],S++[.list [p]]++J1⟩),w6 (ys:=[p]) (y:=q) (st _ _ _) (ht _) (by rw[<-h2];exact congrArg (λ l=>elt ⟨l,_⟩) (if_pos (beq_self_eq_true x))) (by rw[aj _ J1];exact tX ..) hk rfl];rw[(by show St.mk _ ((S++[O.list [p]]++J1++J2).set S.length (O.list [p,q]))=_;rw[aj _ J1,up,aj _ J1]:St.upd ⟨[(x,some b)],S++[.list [p]]++J1++J2⟩ S.length (.list ([p]++[q]))=⟨[(x,some b)],S++[.list [p,q]]++J1++J2⟩)];show(grd _ (aC.ok () _):aC Unit).bindN _=_;unfold grd;rw[if_pos (by rw[aj _ J1];exact st _ _ _)];rfl
theorem JT{x:Str}{ifs:St->aC Bool}{elt:St->aC V}{v a b:V}{t:Bool}{L}{S:List O}(hi:fD v ⟨L,S⟩=some [a,b])(hk:8<=S.length)(hst:∀L' J,cW v ⟨L,S⟩ ⟨L',S++J⟩=true)(ht:∀Y,ifs Y=.ok true Y)
  (h1:∀o,elt ⟨[(x,some a)],S++[o]⟩=.ok (.bool t) ⟨[(x,some a)],S++[o]⟩) (h2:∀o,elt ⟨[(x,some b)],S++[o]⟩=.ok (.bool t) ⟨[(x,some b)],S++[o]⟩):
  kh false x ifs elt v ⟨L,S⟩=.ok (.ref S.length) ⟨L,S++[.bset [t]]⟩:=by
 have up:∀o o',(S++[o]).set S.length o'=S++[o']:=λ o o'=>vQ S _ 0 o'
 dsimp only[kh];rw[hi];show(lX false _ x ifs elt S.length [a,b] ⟨[],S++[.bset []]⟩).bindN _=_;rw[xW (bs:=[]) (b:=t) (hst _ _) (ht _) (h1 _) nZ hk (.inl rfl)];rw[(by show St.mk _ _=_;rw[up];rfl:St.upd ⟨[(x,some a)],S++[.bset []]⟩ S.length (.bset (if [].contains t then []else []++[t]))=⟨[(x,some a)],S++[.bset [t]]⟩),xW (bs:=[t]) (b:=t) (hst _ _) (ht _) (by rw[<-h2];exact congrArg (λ l=>elt ⟨l,_⟩) (if_pos (beq_self_eq_true x))) nZ hk (.inr rfl)];clear h1 h2;rw[(by show St.mk _ _=_;rw[up];induction t<;>rfl:St.upd ⟨[(x,some b)],S++[.bset [t]]⟩ S.length (.bset (if [t].contains t then [t]else [t]++[t]))=⟨[(x,some b)],S++[.bset [t]]⟩)];show(grd _ (aC.ok () _):aC Unit).bindN _=_;unfold grd;rw[if_pos (hst _ _)];rfl
theorem agi{i:Nat}{L}{S:List O}{t:Bool}(e:S[i]?=some (.bset [t]))(x:Str):Gs [x] (.ref i) ⟨L,S⟩=.ok () (aX x (.bool t) ⟨L,S⟩):=by
 show onS (S[i]?) _=_;rw[e];rfl
theorem sG{v:V}{n:Nat}{L L'}{S J:List O}{xs:List V}(h:S[n]?=some (.list xs))(hv:v=.ref n):cW v ⟨L,S⟩ ⟨L',S++J⟩=true:=by rw[hv];exact sE h (aK h)
theorem Fz{v:V}{n:Nat}{L L'}{S J:List O}{xs:List V}(h:S[n]?=some (.tup xs))(hv:v=.ref n):cW v ⟨L,S⟩ ⟨L',S++J⟩=true:=by rw[hv];exact jZ h (aK h)
theorem Xu{cs:List Str}(hn:cs≠[])(ho:∀c∈cs,Ok c):dJ (R cs) aU=mt::cs:=by
 induction cs with
 |nil=>exact absurd rfl hn
 |cons c r=>
  exact lg (by simp) (bO.mpr ⟨by unfold Ok;rw[Sq];nofun,ho⟩)
theorem Sw(x:Str):gK (aU++x) aU=true:=by rw[wu,ud];rfl
noncomputable def plain(c:Str):Bool:=!decide (c=mt)&&!decide (c=gV)
theorem Je{cl:Nat->List V->St->aC V}{k n:Nat}{L}{S:List O}{cs:List Str}(en:S[n]?=some (.list ((mt::cs).map .str)))(ec:S[k+1]?=some (.cell (some (.str gV))))(hk:8<=S.length)(hs:small (mt::cs).length=true)(hc:∀c∈mt::cs,small c.length=true)(hp:∀c∈cs,c≠mt/\c≠gV):
  ∃J,kh true ("c":Str) (xU cl k) (Bo cl k) (.ref n) ⟨L,S⟩=.ok (.ref S.length) ⟨L,S++[.list (cs.map .str)]++J⟩:=by
 have h:=qP (x:=("c":Str)) (ifs:=xU cl k) (elt:=Bo cl k) (v:=.ref n) (L:=L) (S:=S) (xs:=mt::cs) (p:=plain) (jd en (by rw[au];exact hs)) hk hs (λ L' J=>sG en rfl)
  (λ c hm J=>⟨[],by
   have hg:∀S,aH ("c":Str) ⟨[(("c":Str),some (.str c))],S⟩=.ok (.str c) ⟨[(("c":Str),some (.str c))],S⟩:=λ S=>rfl
   simp only[aW];unfold plain;induction h1:decide (c=mt)<;>induction h2:decide (c=gV)<;>simp only[xU,hg,aC.bind_ok,(λ Y=>by rw[lH c (hc c hm),oE]:∀Y,cL (.str c) Y=some (!decide (c=mt))),h1,h2,aO,bD,bH,if_true,aF,if_false,(λ L=>jh (L:=L) (aK (J:=J) ec)),ne_str,qN,Bool.and_true,oJ,Bool.true_and,sI]⟩)
  (λ c J=>rfl)
 have e:(mt::cs).filter plain=cs:=by
  rw[gB];exact qI.mpr λ c hm=>by unfold plain;rw[decide_eq_false (hp c hm).1,decide_eq_false (hp c hm).2];rfl
 rw[e]at h;exact h
noncomputable def L9(n:Nat)(a b c d e f g h:Option V):List (Str×Option V):=jK (some (.ref n)) a b c d e f g h
theorem Gx{cs:List Str}(h:gh cs):small (R cs).length=true:=by
 unfold gh at h;have:=jx cs;exact aV (by rw[iy,ud,aZ,<-iy];lia)
structure CpU(S:List O)(k n t:Nat)(as ps:List Str)(U:List O):Prop where
 u0:U[t]?=some (.list [.ref (t+1),.ref (t+2)])
 u1:U[t+1]?=some (.list ((mt::as).map .str))
 u2:U[t+2]?=some (.list ((mt::ps).map .str))
 un:U[n]?=some (.tup [.str (R as),.str (R ps)])
 uk:U[k+0]?=some (.cell (some (.str aU)))
 ul:U[k+1]?=some (.cell (some (.str gV)))
 pre:S <+: U
 len:8<=U.length
structure CpT(S:List O)(k n:Nat)(as ps:List Str)(T:List O):Prop where
 eT:T[n]?=some (.tup [.str (R as),.str (R ps)])
 e1:T[k+0]?=some (.cell (some (.str aU)))
 e2:T[k+1]?=some (.cell (some (.str gV)))
 kT:8<=T.length
 pT:S <+: T
section
variable {d k n t:Nat}{S T U W:List O}{as ps:List Str}
theorem Sx{x:Str}{cs:List Str}{U:List O}(hU:U[k+0]?=some (.cell (some (.str aU))))(hx:small x.length=true)(hs:dJ x aU=cs):Bk (aG (d+1)) k ⟨[(("path":Str),some (.str x))],U⟩=.ok (.ref U.length) ⟨[(("path":Str),some (.str x))],U++[.list (cs.map .str)]⟩:=by
 have hg:∀S,aH ("path":Str) ⟨[(("path":Str),some (.str x))],S⟩=.ok (.str x) ⟨[(("path":Str),some (.str x))],S⟩:=λ S=>rfl
 simp only[Bk,hg,aC.bind_ok,z6,(λ L=>jh (L:=L) hU),I5 hx,hs,fG]
theorem CpT.split(H:CpT S k n as ps T):CpU S k n T.length as ps (T++[.list [.ref (T.length+1),.ref (T.length+2)]]++[.list ((mt::as).map .str)]++[.list ((mt::ps).map .str)]):=
 ⟨at3 T _ _ _ 0,at3 T _ _ _ 1,at3 T _ _ _ 2,aK (aK (aK H.eT)),aK (aK (aK H.e1)),aK (aK (aK H.e2)),((H.pT.trans (bC ..)).trans (bC ..)).trans (bC ..),by have:=H.kT;simp;lia⟩
inductive Stp(P:St->Prop)(r:aC Fl):Prop
 |mk (Y:St) (e:r=.ok .next Y) (h:P Y)
theorem Stp.then{P Q:St->Prop}{r:aC Fl}{k:St->aC Fl}(h:Stp P r)(hk:∀Y,P Y->Stp Q (k Y)):Stp Q (aA r k):=by
 obtain⟨Y,rfl,h⟩:=h;exact hk Y h
theorem amR(H:CpT S k n as ps T)(na:as≠[])(np:ps≠[])(oa:∀c∈as,Ok c)(op:∀c∈ps,Ok c)(fa:gh as)(fp:gh ps):
  Dw (aG (d+1)) k ⟨L9 n none none none none none none none none,T⟩=.ok .next ⟨L9 n (some (.ref T.length)) none none none none none none none,T++[.list [.ref (T.length+1),.ref (T.length+2)]]++[.list ((mt::as).map .str)]++[.list ((mt::ps).map .str)]⟩:=by
 have cp:=Mi (x:=("path":Str)) (ifs:=RB (aG (d+1)) k) (elt:=Bk (aG (d+1)) k) (L:=L9 n none none none none none none none none) (nD H.eT rfl) H.kT (λ L' J=>Fz H.eT rfl) (λ Y=>rfl)
  (Sx (aK H.e1) (Gx fa) (Xu na oa)) (Sx (aK (aK H.e1)) (Gx fp) (Xu np op))
 unfold L9 at cp ⊢;simp only[Dw,Vl,aC.bind_ok,cp,adk,aq,aZ,cR]
theorem amS(H:CpU S k n t as ps U)(fa:gh as)(fp:gh ps):Dy (aG (d+1)) k ⟨L9 n (some (.ref t)) none none none none none none none,U⟩=.ok .next ⟨L9 n (some (.ref t)) (some (.bool true)) none none none none none none,U++[.bset [true]]⟩:=by
 have el:∀(x:Str) (o:O),small (aU++x).length=true->Bl (aG (d+1)) k ⟨[(("p":Str),some (.str (aU++x)))],U++[o]⟩=.ok (.bool true) ⟨[(("p":Str),some (.str (aU++x)))],U++[o]⟩:=λ x o hx=>by
  have hg:aH ("p":Str) ⟨[(("p":Str),some (.str (aU++x)))],U++[o]⟩=.ok (.str (aU++x)) ⟨[(("p":Str),some (.str (aU++x)))],U++[o]⟩:=rfl;simp only[Bl,hg,aC.bind_ok,nu,(λ L=>jh (L:=L) (aK (J:=[o]) H.uk)),qY hx,Sw]
 have cp:=JT (x:=("p":Str)) (ifs:=RD (aG (d+1)) k) (elt:=Bl (aG (d+1)) k) (L:=L9 n (some (.ref t)) none none none none none none none) (nD H.un rfl) H.len (λ L' J=>Fz H.un rfl) (λ Y=>rfl) (λ o=>el (P as) o (Gx fa)) (λ o=>el (P ps) o (Gx fp));have un:=agi (L:=L9 n (some (.ref t)) none none none none none none none) (cM (S:=U) (.bset [true])) ("isabs":Str);have hb:zW (aG (d+1)) k ⟨L9 n (some (.ref t)) none none none none none none none,U⟩=.ok .next ⟨L9 n (some (.ref t)) (some (.bool true)) none none none none none none,U++[.bset [true]]⟩:=by
  unfold L9 at cp un ⊢;simp only[zW,Bm,Vl,aC.bind_ok,cp,un,aiR,aQ]
 delta Dy Bb
 simp only[hb]
structure CpW(S:List O)(k w p q:Nat)(as ps:List Str)(W:List O):Prop where
 wm:W[w]?=some (.list [.ref p,.ref q])
 wp:W[p]?=some (.list (as.map .str))
 wq:W[q]?=some (.list (ps.map .str))
 wk:W[k+0]?=some (.cell (some (.str aU)))
 pre:S <+: W
 len:8<=W.length
theorem Gy{α:Type}{l:List α}(h:l.length<=1000):small l.length=true:=aV (by lia)
theorem wB{cs:List Str}(h:gh cs):small (mt::cs).length=true/\∀c∈mt::cs,small c.length=true:=by
 unfold gh at h;exact⟨aV (by rw[aZ];lia),bO.mpr ⟨by decide+kernel,λ c hc=>by have:=wA hc;exact aV (by lia)⟩⟩
theorem CpU.filter(H:CpU S k n t as ps U){Ja Jb:List O}:CpW S k (U++[O.bset [true]]).length (U++[O.bset [true]]++[O.list []]).length (U++[O.bset [true]]++[O.list [.ref (U++[O.bset [true]]++[O.list []]).length]]++([O.list (as.map .str)]++Ja)).length as ps
  (U++[O.bset [true]]++[O.list [.ref (U++[O.bset [true]]++[O.list []]).length,.ref (U++[O.bset [true]]++[O.list [.ref (U++[O.bset [true]]++[O.list []]).length]]++([O.list (as.map .str)]++Ja)).length]]++([.list (as.map .str)]++Ja)++([.list (ps.map .str)]++Jb)):=
 ⟨by simp,by simp,by simp[ug],aK (aK (aK (aK H.uk))),(((H.pre.trans (bC ..)).trans (bC ..)).trans (bC ..)).trans (bC ..),by have:=H.len;simp;exact dh _ (by assumption)⟩
inductive amU(S:List O)(k:Nat)(as ps:List Str)(r:aC Fl)(L:Option V->List (Str×Option V)):Prop
 |mk (W:List O) (w p q:Nat) (H:CpW S k w p q as ps W) (e:r=.ok .next ⟨L (some (.ref w)),W⟩)
theorem amV(H:CpU S k n t as ps U)(fa:gh as)(fp:gh ps)(ha:∀c∈as,c≠mt/\c≠gV)(hp:∀c∈ps,c≠mt/\c≠gV):
  amU S k as ps (Dz (aG (d+1)) k ⟨L9 n (some (.ref t)) (some (.bool true)) none none none none none none,U++[.bset [true]]⟩) λ w=>L9 n w (some (.bool true)) none none none none none none:=by
 have h8:=H.len;obtain⟨Ja,hJa⟩:=Je (cl:=aG (d+1)) (L:=[(("s":Str),some (.ref (t+1)))]) (aK (J:=[O.list []]) (aK (J:=[O.bset [true]]) H.u1)) (aK (J:=[O.list []]) (aK (J:=[O.bset [true]]) H.ul)) (by simp;lia) (wB fa).1 (wB fa).2 ha;obtain⟨Jb,hJb⟩:=Je (cl:=aG (d+1)) (L:=[(("s":Str),some (.ref (t+2)))]) (S:=U++[O.bset [true]]++[.list [.ref (U++[O.bset [true]]++[O.list []]).length]]++([.list (as.map .str)]++Ja)) (aK (aK (aK (J:=[O.bset [true]]) H.u2))) (aK (aK (aK (J:=[O.bset [true]]) H.ul))) (by simp;exact dh _ (by assumption)) (wB fp).1 (wB fp).2 hp;refine⟨_,_,_,_,H.filter (Ja:=Ja) (Jb:=Jb),?_⟩;have el2:∀(v:V) S,Ip (aG (d+1)) k ⟨[(("s":Str),some v)],S⟩=kh true ("c":Str) (xU (aG (d+1)) k) (Bo (aG (d+1)) k) v ⟨[(("s":Str),some v)],S⟩:=λ v S=>rfl
 have cp:=Mi (x:=("s":Str)) (ifs:=RG (aG (d+1)) k) (elt:=Ip (aG (d+1)) k) (L:=L9 n (some (.ref t)) (some (.bool true)) none none none none none none) (p:=.ref (U++[O.bset [true]]++[O.list []]).length) (q:=.ref (U++[O.bset [true]]++[O.list [.ref (U++[O.bset [true]]++[O.list []]).length]]++([O.list (as.map .str)]++Ja)).length) (J1:=[.list (as.map .str)]++Ja) (J2:=[.list (ps.map .str)]++Jb) (jd (aK (J:=[O.bset [true]]) H.u0) rfl) (by simp;exact iQ (by assumption)) (λ L' J=>sG (aK H.u0) rfl) (λ Y=>rfl)
  ((el2 _ _).trans (hJa.trans (by rw[aj _ [O.list (as.map V.str)]]))) ((el2 _ _).trans (hJb.trans (by rw[aj _ [O.list (ps.map V.str)]])))
 unfold L9 at cp ⊢;simp only[Dz,adi,aC.bind_ok,cp,adk]
structure CpZ(S:List O)(k z1 z2:Nat)(lo hi:List Str)(W:List O):Prop where
 e1:W[z1]?=some (.list (lo.map .str))
 e2:W[z2]?=some (.list (hi.map .str))
 s1:lo.length<=1000
 s2:hi.length<=1000
 wk:W[k+0]?=some (.cell (some (.str aU)))
 pre:S <+: W
 len:8<=W.length
inductive amX(S:List O)(k:Nat)(as ps:List Str)(W:List O)(L:Nat->Nat->List (Str×Option V))(f:(St->aC Fl)->aC Fl):Prop
 |mk (z1 z2:Nat) (H:CpZ S k z1 z2 (ZW as ps) (hiS as ps) W) (e:∀r,f r=r ⟨L z1 z2,W⟩)
theorem amY{w p q:Nat}(H:CpW S k w p q as ps W)(ha:as.length<=1000)(hp:ps.length<=1000):
  amX S k as ps W (λ z1 z2=>L9 n (some (.ref w)) (some (.bool true)) none (some (.ref z1)) (some (.ref z2)) (some (.ref z1)) none none) λ r=>aA (DG (aG (d+1)) k ⟨L9 n (some (.ref w)) (some (.bool true)) none none none none none none,W⟩) (λ Y=>aA (DK (aG (d+1)) k Y) λ Y=>aA (DN (aG (d+1)) k Y) r):=by
 have b1:=λ L=>Gw (L:=L) (gt:=false) H.wm H.wp H.wq
 have b2:=λ L=>Gw (L:=L) (gt:=true) H.wm H.wp H.wq
 simp only[aF,if_false,if_true]at b1 b2;refine⟨_,_,⟨ahp H.wp H.wq,ahq H.wp H.wq,by unfold ZW;cases fj ps as<;>simpa,by unfold hiS;cases fj as ps<;>simpa,H.wk,H.pre,H.len⟩,λ r=>?_⟩;unfold L9;simp only[DG,DK,DN,adi,Vm,aC.bind_ok,Xq,b1,b2,aiS,aiT,ado,aQ]
noncomputable def Lz(n w z1 z2:Nat)(c:Option V)(g:Nat)(i j:Option V):List (Str×Option V):=L9 n (some (.ref w)) (some (.bool true)) c (some (.ref z1)) (some (.ref z2)) (some (.ref g)) i j
theorem agj{w z1 z2:Nat}{lo hi:List Str}(H:CpZ S k z1 z2 lo hi W){i:Nat}{c y:Str}{oi oc:Option V}(hi':i<=lo.length)(hy:hi[i]?=some y):
  mO (aG (d+1)) k (aX ("c":Str) (.str c) (aX ("i":Str) (.int i) ⟨Lz n w z1 z2 oc z1 oi none,W++[.eit z1 (i+1),.enum W.length (i+1)]⟩))=
   if c=y then .ok .next ⟨Lz n w z1 z2 (some (.str c)) z1 (some (.int i)) none,W++[.eit z1 (i+1),.enum W.length (i+1)]⟩
   else .ok .brk ⟨Lz n w z1 z2 (some (.str c)) (W.length+2) (some (.int i)) none,W++[.eit z1 (i+1),.enum W.length (i+1)]++[.list ((lo.map V.str).take i)]⟩:=by
 have it:=BW (L:=Lz n w z1 z2 (some (.str c)) z1 (some (.int i)) none) (aK (J:=[.eit z1 (i+1),.enum W.length (i+1)]) H.e2) (Gy H.s2) hy;have hs:=H.s1;have sl:=pY (L:=Lz n w z1 z2 (some (.str c)) z1 (some (.int i)) none) (i:=i) (aK (J:=[.eit z1 (i+1),.enum W.length (i+1)]) H.e1) (by rw[au];exact Gy hs) (by lia);dsimp only[Lz,L9]at it sl ⊢;by_cases h:c=y
 ·have d1:=decide_eq_true h;rw[if_pos h];simp only[adm,adq,mO,vW,adl,adn,adp,aC.bind_ok,it,dX,ne_str,qN,d1,bD,aO,aF,if_false,aQ]
 ·have d1:=decide_eq_false h;rw[if_neg h];simp only[adm,adq,mO,vW,zq,wQ,wR,adl,Vm,adn,adp,aC.bind_ok,it,dX,ne_str,qN,d1,bH,aO,if_true,sl,ado,aQ,KN,aq,aZ,cR]
inductive CpX(S:List O)(k n w z1 z2:Nat)(cs:List Str)(r:aC Fl):Prop
 |mk (oc oi:Option V) (g:Nat) (X:List O) (e:r=.ok .next ⟨Lz n w z1 z2 oc g oi none,X⟩) (hg:X[g]?=some (.list (cs.map .str))) (hp:S <+: X) (hk:X[k+0]?=some (.cell (some (.str aU))))
theorem amZ{w z1 z2:Nat}{lo hi:List Str}(H:CpZ S k z1 z2 lo hi W)(hlt:fj hi lo=false):CpX S k n w z1 z2 (eG lo hi) (yD (aG (d+1)) k ⟨Lz n w z1 z2 none z1 none none,W⟩):=by
 have hz1:=(aN.mp H.e1).1;have loop:=Sg (e:=W.length+1) (k:=W.length) (l:=z1) (Lc:=λ oi oc=>Lz n w z1 z2 oc z1 oi none) (T:=W++[.eit z1 0,.enum W.length 0]) (body:=λ i v Y=>mO (aG (d+1)) k (aX ("c":Str) v (aX ("i":Str) (.int i) Y)))
  (aK H.e1) (by simp) (by exact gb (by assumption)) (by lia) (by simp) (by simp) (λ i c=>.inl ⟨_,rfl⟩)
  (λ i c y oi oc hi hy=>by rw[uW];exact agj H (iQ hi) hy)
  lo [] hi none none rfl (by simp) hlt
 rw[cR,uW,jA]at loop;have h6:yD (aG (d+1)) k ⟨Lz n w z1 z2 none z1 none none,W⟩=jq (lY (W.length+1) W.length z1 (lo.map .str) (λ i v Y=>mO (aG (d+1)) k (aX ("c":Str) v (aX ("i":Str) (.int i) Y))) 0 (lo.map .str) ⟨Lz n w z1 z2 none z1 none none,W++[.eit z1 0,.enum W.length 0]⟩) λ Y=>.ok .next Y:=by
  have enu:=BV (cl:=aG (d+1)) (L:=Lz n w z1 z2 none z1 none none) H.e1;have fb:=λ o:St->aC Fl=>Fy (L:=Lz n w z1 z2 none z1 none none) (body:=λ i v Y=>mO (aG (d+1)) k (aX ("c":Str) v (aX ("i":Str) (.int i) Y))) (o:=o) H.e1 (by rw[au];exact Gy H.s1) H.len
  dsimp only[Lz,L9]at enu fb ⊢;simp only[yD,Vm,aC.bind_ok,enu,fb]
 rw[h6];rcases loop with⟨⟨c,h1⟩,h2⟩|⟨⟨oi,oc,h1⟩,h2⟩
 ·rw[h1];refine⟨_,_,W.length+2,_,rfl,?_,(H.pre.trans (bC ..)).trans (bC ..),aK (aK H.wk)⟩;rw[show W.length+2=(W++[O.eit z1 ((eG lo hi).length+1),O.enum W.length ((eG lo hi).length+1)]).length by simp,cM,<-uo,j5]
 ·rw[h1,uW,gY,if_neg (mC _)];exact⟨oc,oi,z1,_,rfl,by rw[aK H.e1,h2],H.pre.trans (bC ..),aK H.wk⟩
theorem ajt{w z1 z2 g:Nat}{X cs:List _}{oc oi:Option V}(hg:X[g]?=some (.list (cs.map .str)))(hk:X[k+0]?=some (.cell (some (.str aU))))(h1:cs.length<=1000)(h2:dI cs<=1000):
  aA (DP (aG (d+1)) k ⟨Lz n w z1 z2 oc g oi none,X⟩) (λ Y=>aA (DQ (aG (d+1)) k Y) λ Y=>.ok .next Y)=.ok (.ret (.str (R cs))) ⟨Lz n w z1 z2 oc g oi (some (.str aU)),X⟩:=by
 delta Lz L9
 simp only[DP,DQ,aiQ,aiU,aiV,aiW,aC.bind_ok,dW,aO,if_true,(λ L=>jh (L:=L) hk),nq,(λ L=>wz (L:=L) hg (Gy h1) (aV (by lia))),(λ Y=>add_str (aV (by have:=jx cs;rw[iy aU];show 1+(P _).length<=_;lia)) Y:∀Y,ru (.str aU) (.str (P cs)) Y=.ok (.str (R cs)) Y),aQ,eV]
theorem aeA(fa:gh as):(eG as ps).length<=1000/\dI (eG as ps)<=1000:=by
 unfold gh at fa;have h:=yS (as.take (eG as ps).length) (as.drop (eG as ps).length);have:=yR as ps;rw[j9,j5]at h;exact⟨by lia,by lia⟩
inductive CpR(S:List O)(v:V)(r:aC Fl):Prop
 |mk (L:List (Str×Option V)) (J:List O) (e:r=.ok (.ret v) ⟨L,S++J⟩)
theorem agk(H:CpT S k n as ps T)(na:as≠[])(np:ps≠[])(ha:∀c∈as,Ok c/\c≠mt/\c≠gV)(hp:∀c∈ps,Ok c/\c≠mt/\c≠gV)(fa:gh as)(fp:gh ps):
  CpR S (.str (R (eG as ps))) (O8 (aG (d+1)) k ⟨L9 n none none none none none none none none,T⟩):=by
 obtain⟨W,w,p,q,HW,e2⟩:=amV (d:=d) (n:=n) H.split fa fp (λ c h=>(ha c h).2) λ c h=>(hp c h).2
 obtain⟨z1,z2,HZ,e3⟩:=amY (d:=d) (n:=n) HW (by unfold gh at fa;lia) (by unfold gh at fp;lia);obtain⟨oc,oi,g,X,e6,hg,⟨J,rfl⟩,hk⟩:=amZ (d:=d) (n:=n) (w:=w) HZ (Sd as ps);rw[Mf]at hg;have f:=aeA (ps:=ps) fa;have hb:O7 (aG (d+1)) k ⟨L9 n none none none none none none none none,T⟩=.ok (.ret (.str (R (eG as ps)))) ⟨Lz n w z1 z2 oc g oi (some (.str aU)),S++J⟩:=by
  unfold O7;simp only[amR H na np (λ c h=>(ha c h).1) (λ c h=>(hp c h).1) fa fp,amS H.split fa fp,e2,aQ,e3,show L9 n (some (.ref w)) (some (.bool true)) none (some (.ref z1)) (some (.ref z2)) (some (.ref z1)) none none=Lz n w z1 z2 none z1 none none from rfl,e6];exact ajt hg hk f.1 f.2
 refine⟨Lz n w z1 z2 oc g oi (some (.str aU)),J,?_⟩;delta O8 Bb
 simp only[hb]
inductive CpH(S:List O)(k:Nat)(as ps:List Str)(cl:Nat->List V->St->aC V)(r:aC Fl):Prop
 |mk (n:Nat) (T:List O) (H:CpT S k n as ps T) (e:r=aA (O8 cl k ⟨L9 n none none none none none none none none,T⟩) λ Y=>.ok .next Y)
theorem agl{m:Nat}(fa:gh as)(fp:gh ps)(h8:8<=S.length)(em:S[m]?=some (.list [.str (R as),.str (R ps)])):
  CpH S S.length as ps (aG (d+1)) (ai4 (aG (d+1)) S.length ⟨jK (some (.ref m)) none none none none none none none none,S++[.cell none,.cell none]⟩):=by
 obtain⟨J0,hm1,hm2⟩:=agh (d:=d) (L:=jK (some (.ref m)) none none none none none none none none) (m:=m) (xs:=[R as,R ps]) (aK (J:=[O.cell none,.cell none]) em) rfl (by simp;lia);generalize hJ:[.any,.tup [.ref (S++[O.cell none,.cell none]).length],.mapo 214 ((S++[O.cell none,.cell none]).length+1)]++J0=J at hm2;rw[aj _ _ J0,hJ,(by rw[<-hJ];simp;lia:(S++[O.cell none,.cell none]).length+3+J0.length=S.length+2+J.length),aj _ J]at hm2;have jn:∀o o',(S++[o,o']++(J++[.tup ([R as,R ps].map .str)]))[S.length+2+J.length]?=some (.tup [.str (R as),.str (R ps)]):=λ o o'=>by
  rw[<-aj,show S.length+2+J.length=(S++[o,o']++J).length by simp;lia,cM];rfl
 generalize J++[.tup ([R as,R ps].map .str)]=J1 at hm2 jn;generalize S.length+2+J.length=n at hm2 jn;have c1:∀o o',(S++[o,o']++J1)[S.length+0]?=some o:=λ o o'=>by rw[aj];exact jQ S _ 0
 have c2:∀o o',(S++[o,o']++J1)[S.length+1]?=some o':=λ o o'=>by rw[aj];exact jQ S _ 1
 have u1:∀o o' x,(S++[o,o']++J1).set (S.length+0) x=S++[x,o']++J1:=λ o o' x=>by rw[aj,vQ,aj];rfl
 have u2:∀o o' x,(S++[o,o']++J1).set (S.length+1) x=S++[o,x]++J1:=λ o o' x=>by rw[aj,vQ,aj];rfl
 have tr0:=λ L=>Z2 (L:=L) (jn (.cell none) (.cell none)) rfl
 refine⟨n,S++[O.cell (some (.str aU)),.cell (some (.str gV))]++J1,⟨jn _ _,c1 _ _,c2 _ _,by simp;exact dh _ (by assumption),by rw[aj];exact bC ..⟩,?_⟩;simp only[ai4,adP,adQ,adR,Xk,Lk,Ln,Vl,aiP,aC.bind_ok,hm1,hm2,aQ,tr0,List.isEmpty_cons,bD,bH,aF,if_false,aO,(λ L=>Z1 (L:=L) (jn (.cell none) (.cell none)) rfl),dX,oA,dW,(λ L v o o'=>(yV (L:=L) (v:=v) (c1 (.cell o) o') (by assumption)).trans (congrArg (λ x=>aC.ok () (St.mk L x)) (u1 _ _ _))),(λ L v o o'=>(yV (L:=L) (v:=v) (c2 o (.cell o')) (by exact cQ (by assumption))).trans (congrArg (λ x=>aC.ok () (St.mk L x)) (u2 _ _ _)))];rfl
end
theorem Gg(d:Nat)(l)(S:List O){m:Nat}{as ps:List Str}(na:as≠[])(np:ps≠[])(ha:∀c∈as,Ok c/\c≠mt/\c≠gV)(hp:∀c∈ps,Ok c/\c≠mt/\c≠gV)(fa:gh as)(fp:gh ps)(hk:8<=S.length)
  (em:S[m]?=some (.list [.str (R as),.str (R ps)])):∃J,aG (d+2) 283 [.ref m] ⟨l,S⟩=.ok (.str (R (eG as ps))) ⟨l,S++J⟩:=by
 obtain⟨n,T,H,e⟩:=agl (d:=d) fa fp hk em;obtain⟨L,J,e'⟩:=agk (d:=d) H na np ha hp fa fp;rw[(by kernel_rfl:aG (d+2) 283 [.ref m] ⟨l,S⟩=sV l (bY (gR (aG (d+1)) 60) (zU 283) (enC 283 S.length) ⟨jK (some (.ref m)) none none none none none none none none,S++[.cell none,.cell none]⟩)),adS,e,e'];exact⟨J,rfl⟩
noncomputable def lJ:List Str:=["..",".","","a","b","c",".."]
theorem Sy(d:Nat)(l)(S:List O):aG (d+1) 297 [] ⟨l,S⟩=.ok (.ref S.length) ⟨l,S++[.list (lJ.map .str)]⟩:=by
 rw[fZ (L:=[]) (S₁:=S) (by kernel_rfl),adD];rfl
theorem qZ(d:Nat)(l)(S:List O){n:Nat}{cs:List Str}(e:S[n]?=some (.list (cs.map .str)))(h:gh cs):aG (d+1) 304 [.ref n] ⟨l,S⟩=.ok (.str (R cs)) ⟨l,S⟩:=by
 rw[fZ (L:=adt (some (.ref n))) (S₁:=S) (by kernel_rfl),adF];unfold gh at h;have j':∀L,gH .join (.str ("/":Str)) [.ref n] ⟨L,S⟩=.ok (.str (P cs)) ⟨L,S⟩:=(λ L=>wz (L:=L) e (aV (by lia)) (aV (by lia)));have a:∀Y,ru (.str ("/":Str)) (.str (P cs)) Y=.ok (.str (R cs)) Y:=λ Y=>add_str (by
  have:=jx cs;show small (aU.length+_)=true;rw[iy aU];exact aV (by show 1+(P cs).length<=_;lia)) Y
 dsimp only[akp,adE,adu,aC.bind_ok,j',a,jg];simp only[adu,aC.bind_ok,nq,j',a,eV,jg]
theorem aeB{α:Type}(xs:List α):cut none (some (-1)) xs=xs.dropLast:=by
 show xs.take (xs.length - 1)=_;rw[j7]
theorem agm{α:Type}(xs:List α):cut none none xs=xs:=dU (bV _)
theorem sH{L}{S:List O}{n:Nat}{xs:List V}(e:S[n]?=some (.list xs))(hs:small xs.length=true):d9 (.ref n) .none (.int (-1)) ⟨L,S⟩=.ok (.ref S.length) ⟨L,S++[.list xs.dropLast]⟩:=by
 show onS (St.list? ⟨L,S⟩ n) _=_;rw[gm e,<-aeB];exact if_pos hs
theorem Z3{L}{S:List O}{n:Nat}{xs:List V}(e:S[n]?=some (.list xs))(hs:small xs.length=true):d9 (.ref n) .none .none ⟨L,S⟩=.ok (.ref S.length) ⟨L,S++[.list xs]⟩:=by
 show onS (St.list? ⟨L,S⟩ n) _=_;rw[gm e];exact(if_pos hs).trans (by rw[agm];rfl)
theorem tE(Y:St):WN .USub (.int 1) Y=.ok (.int (-1)) Y:=rfl
noncomputable def nG(acc:List Str)(c:Str):List Str:=if c=dd then acc.dropLast else if c=mt\/c=gV then acc else acc++[c]
noncomputable def tG(acc:List Str)(c:Str):List Str:=if c=dd/\acc≠[]/\acc.getLast?≠some dd then acc.dropLast else if c=mt\/c=gV then acc else acc++[c]
theorem Mj(acc:List Str)(c:Str):(nG acc c).length<=acc.length+1:=by
 unfold nG;split
 ·rw[gC];omega
 ·split
  ·simp
  ·simp
theorem Z4(acc:List Str)(c:Str):(tG acc c).length<=acc.length+1:=by
 unfold tG;split
 ·rw[gC];omega
 ·split
  ·simp
  ·simp
theorem Z5{cl:Nat->List V->St->aC V}{o0 o1:Option V}{n:Nat}{c:Str}{acc:List Str}{S:List O}(e:S[n]?=some (.list (acc.map .str)))(hs:small (acc.length+1)=true):
  ∃J m,vV cl ⟨sW o0 o1 (some (.ref n)) (some (.str c)),S⟩=.ok .next ⟨sW o0 o1 (some (.ref m)) (some (.str c)),S++J⟩/\(S++J)[m]?=some (.list ((nG acc c).map .str)):=by
 unfold nG;have e1:∀Y,FN (.str c) (.str ("..":Str)) Y=some (decide (c=dd)):=λ Y=>by rw[eq_str];rfl
 have e2:∀Y,vz (.str c) (.str ("":Str)) Y=some (!decide (c=mt)):=λ Y=>by rw[ne_str];rfl
 have e3:∀Y,vz (.str c) (.str (".":Str)) Y=some (!decide (c=gV)):=λ Y=>by rw[ne_str];rfl
 by_cases h1:c=dd
 ·have d1:=decide_eq_true h1;rw[if_pos h1];refine⟨[.list (acc.map V.str).dropLast],S.length,?_,by rw[cM,jz]⟩;simp only[vV,uL,Io,Bh,O4,adv,aC.bind_ok,e1,d1,aO,if_true,tE,(λ L=>sH (L:=L) e (by rw[au];exact je (by simp) hs)),Vn,aQ]
 ·have d1:=decide_eq_false h1;rw[if_neg h1];by_cases h2:c=mt\/c=gV
  ·rw[if_pos h2];refine⟨[],n,?_,by rw[aW];exact e⟩;have:(!decide (c=mt))=false\/(!decide (c=mt))=true/\(!decide (c=gV))=false:=by
    clear e1 e2 e3 h1 d1;rcases h2 with h2|h2
    ·exact .inl (by rw[decide_eq_true h2];rfl)
    ·refine .inr ⟨?_,by rw[decide_eq_true h2];rfl⟩;subst h2;decide+kernel
   rw[aW];rcases this with d2|⟨d2,d3⟩
   ·simp only[vV,uL,vU,qL,O4,aC.bind_ok,e1,e2,d1,d2,aO,aF,if_false,if_true,bH,aQ]
   ·simp only[vV,uL,vU,qL,O4,aC.bind_ok,e1,e2,e3,d1,d2,d3,aO,aF,if_false,if_true,bH,bD,aQ]
  ·rw[if_neg h2];have d3:(!decide (c=gV))=true:=by rw[decide_eq_false (λ q=>h2 (.inr q))];rfl
   have ad:=λ L=>add_list (L:=L) (aK (J:=[O.list [.str c]]) e) (cM (S:=S) (.list [.str c])) (by rw[au];exact hs)
   refine⟨[.list [.str c]]++[.list (acc.map V.str++[.str c])],(S++[O.list [.str c]]).length,?_,by rw[<-aj,cM,aP];rfl⟩;rw[<-aj];simp only[vV,uL,vU,qL,zm,wN,O4,adv,aC.bind_ok,e1,e2,e3,d1,(by rw[decide_eq_false (λ q=>h2 (.inl q))];rfl:(!decide (c=mt))=true),d3,aO,aF,if_false,if_true,bH,bD,fG,ad,Vn,aQ]
theorem Z6(d:Nat)(l)(S:List O){a b:Nat}{as bs:List Str}(ea:S[a]?=some (.list (as.map .str)))(eb:S[b]?=some (.list (bs.map .str)))(hs:small (as.length+bs.length)=true):
  ∃r J,aG (d+1) 311 [.ref a,.ref b] ⟨l,S⟩=.ok (.ref r) ⟨l,S++J⟩/\(S++J)[r]?=some (.list ((bs.foldl nG as).map .str)):=by
 rw[fZ (L:=sW (some (.ref a)) (some (.ref b)) none none) (S₁:=S) (by kernel_rfl),adI];have eb':(S++[O.list (as.map V.str)])[b]?=some (.list (bs.map .str)):=aK eb;obtain⟨Y',h1,J,m,acc,o,h2,h3,h4,-⟩:=mq (f:=V.str) (ok:=cW (.ref b) ⟨sW (some (.ref a)) (some (.ref b)) (some (.ref S.length)) none,S++[O.list (as.map V.str)]⟩) (body:=λ v Y=>vV (aG d) (aX ("piece":Str) v Y))
  (λ r Y=>∃J m acc o,Y=⟨sW (some (.ref a)) (some (.ref b)) (some (.ref m)) o,S++J⟩/\Y.sto[m]?=some (.list (acc.map .str))/\r.foldl nG acc=bs.foldl nG as/\acc.length+r.length<=as.length+bs.length)
  (by rintro r Y ⟨J,m,acc,o,rfl,-,-⟩;exact sE eb' (aK eb))
  (by
   rintro c r Y ⟨J,m,acc,o,rfl,h1,h2,h3⟩;simp only[aZ]at h3;obtain⟨J',m',t1,t2⟩:=Z5 (cl:=aG d) (o0:=some (.ref a)) (o1:=some (.ref b)) (c:=c) h1 (je (by lia) hs);have:=Mj acc c;refine⟨.next,_,.inl rfl,t1,J++J',m',nG acc c,some (.str c),by rw[aj],t2,h2,by lia⟩) bs ⟨sW (some (.ref a)) (some (.ref b)) (some (.ref S.length)) none,S++[O.list (as.map V.str)]⟩
  ⟨_,S.length,as,none,rfl,cM _,rfl,bV _⟩
 refine⟨m,J,?_,?_⟩
 ·have it:=λ L=>jd (L:=L) eb' (by rw[au];exact je (by simp) hs)
  simp only[akq,adG,adH,aiX,aiY,aC.bind_ok,(λ L=>Z3 (L:=L) ea (by rw[au];exact je (by simp) hs)),Vn,aQ,lV,it,h1,h2];rfl
 ·rw[h2]at h3;rw[h3,<-h4];rfl
theorem SJ{L}{S:List O}{a b:Nat}{xs ys:List Str}(ea:S[a]?=some (.list (xs.map .str)))(eb:S[b]?=some (.list (ys.map .str)))(h1:small xs.length=true)(h2:small ys.length=true)(k:List Str->List Str->Bool):aaN a b ⟨L,S⟩ k=some (k xs ys):=
 (dY (gm ea)).trans ((dY (gm eb)).trans ((dY (m5 xs)).trans ((dY (m5 ys)).trans (if_pos (by rw[h1,h2];rfl)))))
theorem SM{L}{S:List O}{a b:Nat}{xs ys:List Str}(ea:S[a]?=some (.list (xs.map .str)))(eb:S[b]?=some (.list (ys.map .str)))(h1:small xs.length=true)(h2:small ys.length=true):FN (.ref a) (.ref b) ⟨L,S⟩=some (decide (xs=ys)):=by
 refine(SJ ea eb h1 h2 _).trans (congrArg some ?_);by_cases h:xs=ys
 ·rw[decide_eq_true h,h];exact beq_self_eq_true _
 ·rw[decide_eq_false h];exact beq_eq_false_iff_ne.mpr h
theorem SN{L}{S:List O}{a b:Nat}{xs ys:List Str}(ea:S[a]?=some (.list (xs.map .str)))(eb:S[b]?=some (.list (ys.map .str)))(h1:small xs.length=true)(h2:small ys.length=true):vz (.ref a) (.ref b) ⟨L,S⟩=some (!decide (xs=ys)):=by
 refine(SJ ea eb h1 h2 _).trans (congrArg some ?_);by_cases h:xs=ys
 ·rw[decide_eq_true h,h];exact bne_self_eq_false _
 ·rw[decide_eq_false h];exact bne_iff_ne.mpr h
theorem Jf{L}{S:List O}{a:Nat}{xs:List Str}(ea:S[a]?=some (.list (xs.map .str)))(h1:small xs.length=true):vz (.ref a) (.ref S.length) ⟨L,S++[.list []]⟩=some (!decide (xs=[])):=
 SN (ys:=[]) (aK ea) (cM _) h1 rfl
theorem Wh{cl:Nat->List V->St->aC V}{o0:Option V}{n:Nat}{c:Str}{acc:List Str}{S:List O}(e:S[n]?=some (.list (acc.map .str)))(hs:small (acc.length+1)=true):
  ∃J m,Gu cl ⟨rM o0 (some (.ref n)) (some (.str c)),S⟩=.ok .next ⟨rM o0 (some (.ref m)) (some (.str c)),S++J⟩/\(S++J)[m]?=some (.list ((tG acc c).map .str)):=by
 have hs1:small acc.length=true:=je (by simp) hs;have hs':small (acc.map V.str).length=true:=by rw[au];exact hs1
 have e1:∀Y,FN (.str c) (.str ("..":Str)) Y=some (decide (c=dd)):=λ Y=>by rw[eq_str];rfl
 have e2:∀Y,vz (.str c) (.str ("":Str)) Y=some (!decide (c=mt)):=λ Y=>by rw[ne_str];rfl
 have e3:∀Y,vz (.str c) (.str (".":Str)) Y=some (!decide (c=gV)):=λ Y=>by rw[ne_str];rfl
 obtain⟨J0,b,ht,hb⟩:∃J0 b,(∀K:Bool->St->aC Fl,(((aH ("piece":Str) ⟨rM o0 (some (.ref n)) (some (.str c)),S⟩).bind λ v6 Y=>(aC.ok (.str ("..":Str)) Y).bind λ v7 Y=>(bA (FN v6 v7 Y) Y).bind λ v5 Y=>aC.ok v5 Y).bind λ v4 Y=>if !v4 then aC.ok v4 Y else((aH ("parts":Str) Y).bind λ v10 Y=>((aC.ok [] Y).bind λ v12 Y=>Y.new (.list v12)).bind λ v11 Y=>(bA (vz v10 v11 Y) Y).bind λ v9 Y=>aC.ok v9 Y).bind λ v8 Y=>if !v8 then aC.ok v8 Y else(((aH ("parts":Str) Y).bind λ v17 Y=>((aC.ok (.int 1) Y).bind (WN .USub)).bind λ v18 Y=>jm (iz v17 v18 Y) Y).bind λ v15 Y=>(aC.ok (.str ("..":Str)) Y).bind λ v16 Y=>(bA (vz v15 v16 Y) Y).bind λ v14 Y=>aC.ok v14 Y).bind λ v13 Y=>if !v13 then aC.ok v13 Y else aC.ok true Y).bind K=K b ⟨rM o0 (some (.ref n)) (some (.str c)),S++J0⟩)/\(b=true↔(c=dd/\acc≠[]/\acc.getLast?≠some dd)):=by
  by_cases h1:c=dd
  ·have d1:=decide_eq_true h1;have ne:=λ L=>Jf (L:=L) e hs1
   by_cases h2:acc=[]
   ·have d2:=decide_eq_true h2;exact⟨[.list []],false,λ K=>by simp only[Du,O5,aC.bind_ok,e1,d1,aO,bD,aF,if_false,fG,ne,d2,bH,if_true],by simp[h2]⟩
   ·have d2:=decide_eq_false h2;obtain⟨z,hz⟩:∃z,acc.getLast? =some z:=by
     induction h:acc.getLast? with
     |none=>exact absurd (fO.mp h) h2
     |some z=>exact⟨z,rfl⟩
    refine⟨[.list []],!decide (z=dd),λ K=>?_,?_⟩
    ·induction d3:decide (z=dd)<;>simp only[Du,O5,aC.bind_ok,e1,d1,aO,bD,aF,if_false,fG,ne,d2,bH,if_true,tE,(λ L=>Ej (L:=L) (aK (J:=[O.list []]) e) hs' (v:=.str z) (by rw[List.getLast?_map,hz];rfl)),dX,(λ Y=>by rw[ne_str];rfl:∀Y,vz (.str z) (.str ("..":Str)) Y=some (!decide (z=dd))),d3]
    ·rw[hz];simp[h1,h2]
  ·have d1:=decide_eq_false h1;exact⟨[],false,λ K=>by simp only[Du,aC.bind_ok,e1,d1,aO,bH,if_true,aW],by simp[h1]⟩
 have e':(S++J0)[n]?=some (.list (acc.map .str)):=aK e;unfold tG;have start:Gu cl ⟨rM o0 (some (.ref n)) (some (.str c)),S⟩=aA (if b=true then zV cl ⟨rM o0 (some (.ref n)) (some (.str c)),S++J0⟩else rO cl ⟨rM o0 (some (.ref n)) (some (.str c)),S++J0⟩) λ Y=>aC.ok .next Y:=congrArg (λ r=>aA r _) (ht _)
 rw[start];clear start ht;by_cases h1:c=dd/\acc≠[]/\acc.getLast?≠some dd
 ·rw[if_pos h1,if_pos (hb.mpr h1)];refine⟨J0++[.list (acc.map V.str).dropLast],(S++J0).length,?_,by rw[<-aj,cM,jz]⟩;simp only[zV,Bj,O5,aC.bind_ok,tE,(λ L=>sH (L:=L) e' hs'),Vo,aQ,aj]
 ·rw[if_neg h1,if_neg (λ q=>h1 (hb.mp q))];by_cases h2:c=mt\/c=gV
  ·rw[if_pos h2];refine⟨J0,n,?_,e'⟩;have:(!decide (c=mt))=false\/(!decide (c=mt))=true/\(!decide (c=gV))=false:=by
    clear e1 e2 e3 hb h1;rcases h2 with h2|h2
    ·exact .inl (by rw[decide_eq_true h2];rfl)
    ·refine .inr ⟨?_,by rw[decide_eq_true h2];rfl⟩;subst h2;decide+kernel
   rcases this with d2|⟨d2,d3⟩
   ·simp only[rO,qM,Du,aC.bind_ok,e2,d2,aO,aF,if_false,if_true,bH,aQ]
   ·simp only[rO,qM,Du,aC.bind_ok,e2,e3,d2,d3,aO,aF,if_false,if_true,bH,bD,aQ]
  ·rw[if_neg h2];have d2:(!decide (c=mt))=true:=by rw[decide_eq_false (λ q=>h2 (.inl q))];rfl
   have d3:(!decide (c=gV))=true:=by rw[decide_eq_false (λ q=>h2 (.inr q))];rfl
   have ad:=λ L=>add_list (L:=L) (aK (J:=[O.list [.str c]]) e') (cM (S:=S++J0) (.list [.str c])) (by rw[au];exact hs)
   refine⟨J0++([.list [.str c]]++[.list (acc.map V.str++[.str c])]),(S++J0++[O.list [.str c]]).length,?_,by rw[<-aj,<-aj,cM,aP];rfl⟩;rw[<-aj,<-aj];simp only[rO,qM,zp,wO,Du,O5,aC.bind_ok,e2,e3,d2,d3,aO,aF,if_false,if_true,bH,bD,fG,ad,Vo,aQ]
theorem Wi(d:Nat)(l)(S:List O){b:Nat}{bs:List Str}(eb:S[b]?=some (.list (bs.map .str)))(hs:small bs.length=true):
  ∃r J,aG (d+1) 318 [.ref b] ⟨l,S⟩=.ok (.ref r) ⟨l,S++J⟩/\(S++J)[r]?=some (.list ((bs.foldl tG []).map .str)):=by
 rw[fZ (L:=rM (some (.ref b)) none none) (S₁:=S) (by kernel_rfl),adL];have eb':(S++[O.list []])[b]?=some (.list (bs.map .str)):=aK eb;obtain⟨Y',h1,J,m,acc,o,h2,h3,h4,-⟩:=mq (f:=V.str) (ok:=cW (.ref b) ⟨rM (some (.ref b)) (some (.ref S.length)) none,S++[O.list []]⟩) (body:=λ v Y=>Gu (aG d) (aX ("piece":Str) v Y))
  (λ r Y=>∃J m acc o,Y=⟨rM (some (.ref b)) (some (.ref m)) o,S++J⟩/\Y.sto[m]?=some (.list (acc.map .str))/\r.foldl tG acc=bs.foldl tG []/\acc.length+r.length<=bs.length)
  (by rintro r Y ⟨J,m,acc,o,rfl,-,-⟩;exact sE eb' (aK eb))
  (by
   rintro c r Y ⟨J,m,acc,o,rfl,h1,h2,h3⟩;simp only[aZ]at h3;obtain⟨J',m',t1,t2⟩:=Wh (cl:=aG d) (o0:=some (.ref b)) (c:=c) h1 (je (by lia) hs);have:=Z4 acc c;refine⟨.next,_,.inl rfl,t1,J++J',m',tG acc c,some (.str c),by rw[aj],t2,h2,by lia⟩) bs ⟨rM (some (.ref b)) (some (.ref S.length)) none,S++[O.list []]⟩
  ⟨_,S.length,[],none,rfl,cM _,rfl,by simp⟩
 refine⟨m,J,?_,?_⟩
 ·have it:=λ L=>jd (L:=L) eb' (by rw[au];exact hs)
  simp only[akr,adJ,adK,aiZ,aC.bind_ok,fG,Vo,aQ,lV,it,h1,h2];rfl
 ·rw[h2]at h3;rw[h3,<-h4];rfl
inductive akX(test:St->aC Bool)(body orelse:St->aC Fl)(Z:aC Fl->Prop)(I:Nat->St->Prop)(n:Nat)(Y:St):Prop
 |stop {σ₁:St}(h1:test Y=.ok false σ₁) (h2:Z ((orelse σ₁).bindN λ f Y=>.ok f Y))
 |brk {σ₁ σ₂:St}(h1:test Y=.ok true σ₁) (h2:body σ₁=.ok .brk σ₂) (h3:Z (.ok .next σ₂))
 |ret {σ₁ σ₂:St}{v:V}(h1:test Y=.ok true σ₁) (h2:body σ₁=.ok (.ret v) σ₂) (h3:Z (.ok (.ret v) σ₂))
 |on {σ₁ σ₂:St}(m:Nat) (h1:test Y=.ok true σ₁) (h2:body σ₁=.ok .next σ₂) (hm:m < n) (hi:I m σ₂)
theorem yW{test:St->aC Bool}{body orelse:St->aC Fl}{Z:aC Fl->Prop}(I:Nat->St->Prop)(h:∀n Y,I n Y->akX test body orelse Z I n Y)(fuel:Nat):∀n Y,n < fuel->I n Y->Z (nT test body orelse fuel Y):=by
 induction fuel with
 |zero=>exact λ n Y hn _=>absurd hn (mH n)
 |succ fuel ih=>
  intro n Y hn hI;show Z ((test Y).bindN _);induction h n Y hI with
  |stop h1 h2=>rw[h1];exact h2
  |brk h1 h2 h3|ret h1 h2 h3=>
   rw[h1];show Z ((body _).bindN _);rw[h2];exact h3
  |on m h1 h2 h4 h5=>
   rw[h1];show Z ((body _).bindN _);rw[h2];exact ih m _ (m8 h4 (Nat.le_of_lt_succ hn)) h5
theorem agn:∀{xs ys:List Str}{i:Nat},i<=(eG xs ys).length->(i < (eG xs ys).length↔i < xs.length/\i < ys.length/\xs[i]?=ys[i]?):=by
 intro xs;induction xs with
 |nil=>exact λ h=>⟨λ q=>absurd q (mH _),λ q=>absurd q.1 (mH _)⟩
 |cons x xs ih=>
  intro ys i h;rcases ys with _|⟨y,ys⟩
  ·exact⟨λ q=>absurd q (mH _),λ q=>absurd q.2.1 (mH _)⟩
  dsimp only[eG]at h ⊢;by_cases e:x=y
  ·rw[if_pos e]at h ⊢;induction i with
   |zero=>simp[e]
   |succ i=>
    have:=ih (ys:=ys) (i:=i) (Nat.le_of_succ_le_succ h);simpa using this
  ·rw[if_neg e]at h ⊢;have:i=0:=Nat.le_zero.mp h;subst this;simp[e]
theorem lt_int(i j:Int)(Y:St):zG .Lt (.int i) (.int j) Y=some (decide (i < j)):=rfl
theorem PX(i j:Int)(Y:St):Qm [.int i,.int j] Y=.ok (.int (if j < i then j else i)) Y:=rfl
theorem Ca(i j:Int)(Y:St):sY .Add (.int i) (.int j) Y=.ok (.int (i+j)) Y:=rfl
inductive aju(a b:Nat)(S:List O)(c n:Nat)(Y:St):Prop
 |mk (i:Nat) (hi:i<=c) (hn:n=c - i) (e:Y=⟨rN (some (.ref a)) (some (.ref b)) (some (.int i)),S⟩)
set_option tactic.hygienic true in
theorem Jg(d:Nat)(l)(S:List O){a b:Nat}{xs ys:List Str}(ea:S[a]?=some (.list (xs.map .str)))(eb:S[b]?=some (.list (ys.map .str)))(hx:xs.length<=1000)(hy:ys.length<=1000):
  aG (d+1) 325 [.ref a,.ref b] ⟨l,S⟩=.ok (.int (eG xs ys).length) ⟨l,S⟩:=by
 rw[fZ (L:=rN (some (.ref a)) (some (.ref b)) none) (S₁:=S) (by kernel_rfl),adO];have sx:small xs.length=true:=aV (by lia);have sy:small ys.length=true:=aV (by lia);have l1:=λ L=>uX (L:=L) ea (by rw[au];exact sx)
 have l2:=λ L=>uX (L:=L) eb (by rw[au];exact sy)
 rw[au]at l1 l2;have main:Vr (aG d) ⟨rN (some (.ref a)) (some (.ref b)) (some (.int 0)),S⟩=.ok .next ⟨rN (some (.ref a)) (some (.ref b)) (some (.int (eG xs ys).length)),S⟩:=by as_aux_lemma=>
  unfold Vr;rw[if_pos rfl];refine yW (Z:=λ r=>r=.ok .next ⟨rN (some (.ref a)) (some (.ref b)) (some (.int (eG xs ys).length)),S⟩) (aju a b S (eG xs ys).length) (λ n Y hI=>?_) wf (eG xs ys).length _ (by have:=yR xs ys;show _ < 100000;lia) ⟨0,dR _,rfl,rfl⟩;obtain⟨i,hi,rfl,rfl⟩:=hI;refine uq λ Zz toG=>?_
  have hc:=agn hi;have stop:∀{Y:Nat},i=(eG xs ys).length->((aC.ok Fl.next ⟨rN (some (.ref a)) (some (.ref b)) (some (.int i)),S⟩).bindN λ f Y=>aC.ok f Y)=.ok .next ⟨rN (some (.ref a)) (some (.ref b)) (some (.int (eG xs ys).length)),S⟩:=λ{_} q=>by rw[q];rfl
  by_cases h1:i < xs.length/\i < ys.length
  ·have d1:decide ((i:Int) < if(ys.length:Int) < (xs.length:Int)then(ys.length:Int)else(xs.length:Int))=true:=decide_eq_true (by clear toG l1 l2 ea eb hc stop;split<;>omega);have hx':=bf h1.1;have hy':=bf h1.2;have i1:=λ L=>BW (L:=L) ea sx hx'
   have i2:=λ L=>BW (L:=L) eb sy hy'
   by_cases h2:xs[i]=ys[i]
   ·have d2:=decide_eq_true h2;have hlt:i < (eG xs ys).length:=hc.mpr ⟨h1.1,h1.2,by rw[hx',hy',h2]⟩;refine toG (.on (σ₁:=⟨rN (some (.ref a)) (some (.ref b)) (some (.int i)),S⟩) (σ₂:=⟨rN (some (.ref a)) (some (.ref b)) (some (.int (i+1:Nat))),S⟩) ((eG xs ys).length - (i+1)) ?_ ?_ (Nat.sub_succ_lt_self _ _ hlt) ⟨i+1,hlt,rfl,rfl⟩)
    ·simp only[Vp,Vq,Il,aC.bind_ok,l1,l2,PX,lt_int,d1,aO,bD,aF,if_false,i1,i2,dX,eq_str,BP,d2]
    ·dsimp only[Xj,Il,Ca,adw];rfl
   ·have d2:=decide_eq_false h2;refine toG (.stop (σ₁:=⟨rN (some (.ref a)) (some (.ref b)) (some (.int i)),S⟩) ?_ (stop (Y:=0) ((Nat.lt_or_eq_of_le hi).resolve_left λ q=>h2 ?_)))
    ·simp only[Vp,Vq,Il,aC.bind_ok,l1,l2,PX,lt_int,d1,aO,bD,bH,if_true,aF,if_false,i1,i2,dX,eq_str,BP,d2]
    ·have:=(hc.mp q).2.2;rw[hx',hy']at this;exact Option.some.inj this
  ·have d1:decide ((i:Int) < if(ys.length:Int) < (xs.length:Int)then(ys.length:Int)else(xs.length:Int))=false:=decide_eq_false (by clear toG l1 l2 ea eb hc stop;split<;>omega);refine toG (.stop (σ₁:=⟨rN (some (.ref a)) (some (.ref b)) (some (.int i)),S⟩) ?_ (stop (Y:=0) ((Nat.lt_or_eq_of_le hi).resolve_left λ q=>h1 ⟨(hc.mp q).1,(hc.mp q).2.1⟩)));simp only[Vp,Vq,Il,aC.bind_ok,l1,l2,PX,lt_int,d1,aO,bH,if_true]
 simp only[aks,adM,aC.bind_ok,adw,aQ,main,adN,Il,eV,jg]
noncomputable def jk:List (List Str):=[["a","x"],["a","b","x"],["a","b","y"],["c","x"],["c","b","z"],["w"]]
noncomputable def Ml:List Str:=["x","y","z","w"]
noncomputable def Nm(c:Str):Prop:=Ok c/\c≠mt/\c≠gV/\c≠dd
theorem anS{c:Str}{r:List Str}:P (mt::c::r)=R (c::r):=qC (by rw[ud,show tx (P (mt::c::r))=tx mt++47::tx (P (c::r))from qe mt c r,Sq];rfl)
theorem akY{a b:List Str}(ha:a≠[])(hb:b≠[]):R a++(aU++P b)=R (a++b):=by
 show(aU++P a)++(aU++P b)=aU++P (a++b);rw[show P (a++b)=P a++aU++P b from aem ha hb];simp only[Str.append_assoc]
theorem SQ{abs:Bool}{acc:List Str}{c:Str}(h:Nm c):iU abs acc c=acc++[c]:=by
 unfold iU;rw[if_neg (λ q=>q.elim h.2.1 h.2.2.1),if_pos (.inl h.2.2.2)]
theorem Cd(abs:Bool):∀(cs acc:List Str),(∀c∈cs,Nm c)->cs.foldl (iU abs) acc=acc++cs
 |[],acc,_=>(aW acc).symm
 |c::r,acc,h=>by
  rw[eU,SQ (h c bw),Cd abs r _ λ x hx=>h x (bM _ hx),aj];rfl
theorem Mp(abs:Bool)(acc:List Str):iU abs acc gV=acc:=if_pos (.inr rfl)
theorem Xv:dd≠mt/\dd≠gV:=by decide+kernel
theorem Xx{acc:List Str}(c:Str)(h:dd∉acc):iU true acc c=nG acc c/\dd∉nG acc c:=by
 delta iU nG
 by_cases h1:c=dd
 ·rw[if_pos h1,if_neg (λ q=>q.elim (λ q=>Xv.1 (h1.symm.trans q)) λ q=>Xv.2 (h1.symm.trans q)),if_neg]
  ·exact⟨rfl,λ q=>h (iD _ q)⟩
  ·rintro(q|q|q)
   ·exact q h1
   ·cases q.1
   ·exact h (List.mem_of_getLast? q)
 ·rw[if_neg h1];by_cases h2:c=mt\/c=gV
  ·rw[if_pos h2,if_pos h2];exact⟨rfl,h⟩
  ·rw[if_neg h2,if_neg h2,if_pos (.inl h1)];refine⟨rfl,λ q=>?_⟩;rcases aM.mp q with q|q
   ·exact h q
   ·exact h1 (aJ.mp q).symm
theorem aeC:∀(cs acc:List Str),dd∉acc->cs.foldl (iU true) acc=cs.foldl nG acc
 |[],acc,_=>rfl
 |c::r,acc,h=>by
  obtain⟨h1,h2⟩:=Xx c h;simp only[eU,h1,aeC r _ h2]
theorem Xy(acc:List Str)(c:Str):iU false acc c=tG acc c:=by
 unfold iU tG;by_cases h1:c=dd
 ·have h2:¬ (c=mt\/c=gV):=λ q=>q.elim (λ q=>Xv.1 (h1.symm.trans q)) λ q=>Xv.2 (h1.symm.trans q)
  rw[if_neg h2,if_neg h2];by_cases h3:acc≠[]/\acc.getLast?≠some dd
  ·rw[if_pos (show c=dd/\acc≠[]/\acc.getLast?≠some dd from⟨h1,h3⟩),if_neg];rintro(q|q|q)
   ·exact q h1
   ·exact h3.1 q.2
   ·exact h3.2 q
  ·rw[if_neg (show ¬ (c=dd/\acc≠[]/\acc.getLast?≠some dd)from λ q=>h3 q.2),if_pos];by_cases h4:acc=[]
   ·exact .inr (.inl ⟨rfl,h4⟩)
   ·by_cases h5:acc.getLast? =some dd
    ·exact .inr (.inr h5)
    ·exact absurd ⟨h4,h5⟩ h3
 ·rw[if_neg (c:=c=dd/\acc≠[]/\acc.getLast?≠some dd) (λ q=>h1 q.1)];by_cases h2:c=mt\/c=gV
  ·rw[if_pos h2,if_pos h2]
  ·rw[if_neg h2,if_neg h2,if_pos (.inl h1)]
theorem Qa:∀(cs acc:List Str),cs.foldl (iU false) acc=cs.foldl tG acc
 |[],acc=>rfl
 |c::r,acc=>by rw[eU,eU,Xy,Qa r]
theorem ago:∀(n:Nat) (acc:List Str),dd∉acc->n<=acc.length->(bQ n dd).foldl (iU true) acc=acc.take (acc.length - n):=by
 intro n;induction n with
 |zero=>intro acc _ _;rw[Nat.sub_zero,List.take_length];rfl
 |succ n ih=>
  intro acc h hn;simp only[lW,eU,((Xx dd h).1)];show(bQ n dd).foldl (iU true) (if dd=dd then acc.dropLast else _)=_;rw[if_pos rfl,ih _ (λ q=>h (iD _ q)) (by rw[gC];lia),gC,j7,List.take_take];lia
theorem Z7{as goal:List Str}(ha:∀c∈as,Nm c)(hg:∀c∈goal,Nm c):(as++(bQ (as.length - (eG as goal).length) dd++goal.drop (eG as goal).length)).foldl (iU true) []=goal:=by
 have h1:=yR as goal;have h3:=j5 goal as;rw[yQ goal as]at h3;rw[jB,Cd true as [] ha,jW,jB,ago _ _ (λ q=>(ha _ q).2.2.2 rfl) (by simp),show as.length - (as.length - (eG as goal).length)=(eG as goal).length by lia,(j5 as goal),Cd true _ _ (λ c hc=>hg c (vp _ _ hc))];have h4:=j9 (eG as goal).length goal;rw[h3]at h4;exact h4
set_option tactic.hygienic true in
theorem Mq{Q:Str->Prop}:∀(cs acc:List Str),(∀c∈acc,Q c)->(∀c∈cs,c≠mt->c≠gV->c≠dd->Q c)->∀c∈cs.foldl nG acc,Q c:=by
 intro cs;induction cs with
 |nil=>exact λ acc h _=>h
 |cons c r ih=>
  intro acc h h2;refine ih _ (λ x hx=>?_) λ x hx=>h2 x (bM _ hx)
  unfold nG at hx;split at hx
  ·exact h x (iD _ hx)
  ·rename_i h1
   split at hx
   ·exact h x hx
   ·rename_i h3
    rcases aM.mp hx with hx|hx
    ·exact h x hx
    ·rw[aJ.mp hx];exact h2 c bw (λ q=>h3 (.inl q)) (λ q=>h3 (.inr q)) h1
structure Ek(own:List Str)(rooted:Bool)(pcs:List Str)(last:Str):Prop where
 hown:own∈jk
 hpcs:∀c∈pcs,c∈lJ
 few:pcs.length<=4
 hlast:last∈Ml
noncomputable def iM(own:List Str)(rooted:Bool):List Str:=if rooted then []else own.dropLast
noncomputable def bZ(own:List Str)(rooted:Bool)(ps:List Str):List Str:=ps.foldl nG (iM own rooted)
noncomputable def qg(rooted:Bool)(ps:List Str):Str:=P ((if rooted then [mt,gV]else [gV])++ps)
theorem aeD:∀c∈lJ,Ok c/\c.length<=2/\(c≠mt->c≠gV->c≠dd->Nm c/\c∉Ml):=by delta Nm Ok;decide+kernel
theorem Ce:∀c∈Ml,Nm c/\c.length=1:=by delta Nm Ok;decide+kernel
theorem z7:∀own∈jk,(∀c∈own,Nm c)/\(∀c∈own.dropLast,c∉Ml)/\own≠[]/\own.length<=3/\dI own<=3:=by delta Nm Ok;decide+kernel
theorem ajv:∀own∈jk,ajr (R own)=R own.dropLast/\(-1000000<=nM (R own) aU+1/\nM (R own) aU+1<=1000000)/\(R own).length<=10:=by decide+kernel
section
variable {own:List Str}{rooted:Bool}{pcs:List Str}{last:Str}
noncomputable def lq(own goal:List Str):List Str:=bQ (own.dropLast.length - (eG own.dropLast goal).length) dd++goal.drop (eG own.dropLast goal).length
theorem aeE:∀{cs:List Str}{b:Nat},(∀c∈cs,c.length<=b)->dI cs<=b*cs.length
 |[],b,_=>dR _
 |c::r,b,h=>by
  have:=h c bw;have:=aeE (cs:=r) (b:=b) λ x hx=>h x (bM _ hx)
  rw[(by unfold dI;rw[cA,jD]:dI (c::r)=c.length+dI r),aZ,Nat.mul_add];lia
theorem tH{cs:List Str}{n:Nat}(h:∀c∈cs,c.length<=2)(hn:cs.length<=n)(h3:n<=300):gh cs:=by
 have:=aeE h;unfold gh;lia
namespace Ek
variable (T:Ek own rooted pcs last)
include T
theorem ps_ok:(∀c∈pcs++[last],Ok c)/\(∀c∈pcs++[last],c.length<=2)/\(pcs++[last]).length<=5:=by
 refine⟨λ c hc=>?_,λ c hc=>?_,by rw[aq];have:=T.few;show pcs.length+1<=5;lia⟩
 ·rcases aM.mp hc with hc|hc
  ·exact(aeD c (T.hpcs c hc)).1
  ·rw[aJ.mp hc];exact(Ce _ T.hlast).1.1
 ·rcases aM.mp hc with hc|hc
  ·exact(aeD c (T.hpcs c hc)).2.1
  ·rw[aJ.mp hc,(Ce _ T.hlast).2];decide
theorem dir_nm:∀c∈own.dropLast,Nm c:=λ c hc=>(z7 _ T.hown).1 c (iD _ hc)
theorem base_nm:∀c∈iM own rooted,Nm c:=by
 unfold iM;cases rooted
 ·exact T.dir_nm
 ·nofun
theorem dir_small:(∀c∈own.dropLast,c.length<=2)/\own.dropLast.length<=2:=by
 have h:=z7 _ T.hown;refine⟨λ c hc=>?_,by rw[gC];omega⟩;exact(by decide+kernel:∀own∈jk,∀c∈own,c.length<=2) _ T.hown _ (iD _ hc)
theorem base_small:(∀c∈iM own rooted,c.length<=2)/\(iM own rooted).length<=2:=by
 unfold iM;induction rooted
 ·exact T.dir_small
 ·exact⟨nofun,dR _⟩
theorem goal_eq:bZ own rooted (pcs++[last])=pcs.foldl nG (iM own rooted)++[last]:=by
 unfold bZ;rw[jB];show nG _ last=_;have h:=(Ce _ T.hlast).1;dsimp only[nG];rw[if_neg h.2.2.2,if_neg (λ q=>q.elim h.2.1 h.2.2.1)]
theorem goal_nm:∀c∈bZ own rooted (pcs++[last]),Nm c:=
 Mq (Q:=Nm) (pcs++[last]) _ T.base_nm λ c hc h1 h2 h3=>by
  rcases aM.mp hc with hc|hc
  ·exact((aeD c (T.hpcs c hc)).2.2 h1 h2 h3).1
  ·rw[aJ.mp hc];exact(Ce _ T.hlast).1
theorem goal_small:(∀c∈bZ own rooted (pcs++[last]),c.length<=2)/\(bZ own rooted (pcs++[last])).length<=7:=by
 refine⟨Mq (Q:=λ c=>c.length<=2) (pcs++[last]) _ T.base_small.1 λ c hc _ _ _=>T.ps_ok.2.1 c hc,?_⟩;have:∀(cs acc:List Str),(cs.foldl nG acc).length<=acc.length+cs.length:=by
  intro cs;induction cs with
  |nil=>intro acc;exact bV _
  |cons c r ih=>intro acc;have:=ih (nG acc c);have:=Mj acc c;rw[eU,aZ];lia
 have:=this (pcs++[last]) (iM own rooted);have:=T.base_small.2;have:=T.ps_ok.2.2;unfold bZ;lia
theorem at_ok:(∀c∈iM own rooted++gV::(pcs++[last]),Ok c)/\(∀c∈iM own rooted++gV::(pcs++[last]),c.length<=2)/\(iM own rooted++gV::(pcs++[last])).length<=8:=by
 have hd:Ok gV/\gV.length<=2:=by delta Ok;decide+kernel
 refine⟨λ c hc=>?_,λ c hc=>?_,?_⟩
 ·rcases aM.mp hc with hc|hc
  ·exact(T.base_nm c hc).1
  ·rcases bU.mp hc with rfl|hc
   ·exact hd.1
   ·exact T.ps_ok.1 c hc
 ·rcases aM.mp hc with hc|hc
  ·exact T.base_small.1 c hc
  ·rcases bU.mp hc with rfl|hc
   ·exact hd.2
   ·exact T.ps_ok.2.1 c hc
 ·have:=T.base_small.2;have:=T.ps_ok.2.2;rw[aq,aZ];lia
theorem nf_at:nf (iM own rooted++gV::(pcs++[last]))=bZ own rooted (pcs++[last]):=by
 unfold nf bZ;rw[jB,Cd true _ [] T.base_nm,jW,eU,Mp];exact aeC _ _ λ q=>(T.base_nm _ q).2.2.2 rfl
theorem nf_dir:nf (own.dropLast++[gV])=own.dropLast:=by
 unfold nf;rw[jB,Cd true _ [] T.dir_nm,jW];exact Mp true _
theorem out_ne:lq own (bZ own rooted (pcs++[last]))≠[]:=λ q=>by
 have h1:=(List.append_eq_nil_iff.mp q).2;have h2:=j5 (bZ own rooted (pcs++[last])) own.dropLast;rw[yQ]at h2;rw[List.drop_eq_nil_iff]at h1;rw[dU h1]at h2;have h3:last∈own.dropLast:=by
  have:last∈eG own.dropLast (bZ own rooted (pcs++[last])):=by rw[<-h2,T.goal_eq];simp
  rw[<-j5]at this;exact ql this
 exact(z7 _ T.hown).2.1 _ h3 T.hlast
theorem out_ok:∀c∈lq own (bZ own rooted (pcs++[last])),(c=dd\/Nm c)/\c.length<=2:=λ c hc=>by
 rcases aM.mp hc with hc|hc
 ·rw[List.eq_of_mem_replicate hc];exact⟨.inl rfl,by decide+kernel⟩
 ·exact⟨.inr (T.goal_nm c (vp _ _ hc)),T.goal_small.1 c (vp _ _ hc)⟩
theorem back_ok:(∀c∈own.dropLast++lq own (bZ own rooted (pcs++[last])),Ok c/\c≠mt)/\(∀c∈own.dropLast++lq own (bZ own rooted (pcs++[last])),c.length<=2)/\(own.dropLast++lq own (bZ own rooted (pcs++[last]))).length<=20:=by
 refine⟨λ c hc=>?_,λ c hc=>?_,?_⟩
 ·rcases aM.mp hc with hc|hc
  ·exact⟨(T.dir_nm c hc).1,(T.dir_nm c hc).2.1⟩
  ·rcases(T.out_ok c hc).1 with rfl|h
   ·exact(by delta Ok;decide+kernel)
   ·exact⟨h.1,h.2.1⟩
 ·rcases aM.mp hc with hc|hc
  ·exact T.dir_small.1 c hc
  ·exact(T.out_ok c hc).2
 ·have:=T.dir_small.2;have:=T.goal_small.2;unfold lq;simp only[aq,j8,eY];omega
theorem nf_back:nf (own.dropLast++lq own (bZ own rooted (pcs++[last])))=bZ own rooted (pcs++[last]):=Z7 T.dir_nm T.goal_nm
end Ek
theorem El{as:List Str}(ha:∀c∈as,Ok c/\c≠mt){c:Str}{r:List Str}(hc:Ok c)(h0:c≠mt):wZ (R as) (P (c::r))=R (as++c::r):=by
 have h1:¬ (gK (P (c::r)) aU=true\/R as=mt):=by
  rintro(q|q)
  ·rw[wu]at q;exact(qO hc h0 r).1 (eq_of_beq q)
  ·have:=congrArg tx q;rw[ud]at this;contradiction
 unfold wZ;rw[if_neg h1];induction as with
 |nil=>
  rfl
 |cons a t=>
  have h2:¬ lM (R (a::t)) aU=true:=by
   rw[V6,ud];have hl:∀(t:List Str) (a:Str),(∀c∈a::t,Ok c/\c≠mt)->∃z,(tx (P (a::t))).getLast? =some z/\z≠47:=by
    intro t;induction t with
    |nil=>
     intro a h;induction q:(tx a).getLast? with
     |none=>exact absurd (qC ((fO.mp q).trans Sq.symm)) (h a bw).2
     |some z=>exact⟨z,q,λ e=>(h a bw).1 (by rw[<-e];exact List.mem_of_getLast? q)⟩
    |cons b t ih=>
     intro a h;obtain⟨z,hz,h'⟩:=ih b λ x hx=>h x (bM _ hx)
     refine⟨z,?_,h'⟩;rw[show tx (P (a::b::t))=tx a++47::tx (P (b::t))from qe a b t,List.getLast?_append,List.getLast?_cons,hz];rfl
   obtain⟨z,hz,h'⟩:=hl t a ha;rw[List.getLast?_cons,hz];exact λ q=>h' (Option.some.inj (eq_of_beq q))
  rw[if_neg h2];exact akY (by simp) (by simp)
theorem Wj{a x:Str}:wZ a (aU++x)=aU++x:=if_pos (.inl (Sw x))
theorem uf:Ok gV/\gV≠mt:=by delta Ok;decide+kernel
namespace Ek
variable (T:Ek own rooted pcs last)
include T
theorem join_name:wZ (R own.dropLast) (qg rooted (pcs++[last]))=R (iM own rooted++gV::(pcs++[last])):=by
 induction rooted with
 |true=>
  exact Wj
 |false=>exact El (λ c hc=>⟨(T.dir_nm c hc).1,(T.dir_nm c hc).2.1⟩) uf.1 uf.2
theorem join_dot:wZ (R own.dropLast) gV=R (own.dropLast++[gV]):=El (r:=[]) (λ c hc=>⟨(T.dir_nm c hc).1,(T.dir_nm c hc).2.1⟩) uf.1 uf.2
theorem join_back:wZ (R own.dropLast) (P (lq own (bZ own rooted (pcs++[last]))))=R (own.dropLast++lq own (bZ own rooted (pcs++[last]))):=by
 have h:=T.out_ne;have h2:=T.back_ok.1;generalize lq own (bZ own rooted (pcs++[last]))=out at*;induction out with
 |nil=>exact absurd rfl h
 |cons c r=>
  have:=h2 c (by simp);exact El (λ c hc=>⟨(T.dir_nm c hc).1,(T.dir_nm c hc).2.1⟩) this.1 this.2
end Ek
end
theorem aeF{c:Str}{r:List Str}(hc:Ok c)(h0:c≠mt):iK (P (c::r))=mt/\fB (P (c::r))=P (c::r):=⟨if_neg (qO hc h0 r).1,if_neg (qO hc h0 r).1⟩
theorem ajw(d:Nat){c:Str}{r:List Str}(ho:∀x∈c::r,Ok x)(h0:c≠mt)(hf:gh (c::r)){out:List Str}(hout:(c::r).foldl (iU false) []=out)(hn:out≠[])(hm:∀x∈out,Ok x/\x≠mt)(l)(S:List O)(hk:8<=S.length):
  ∃J,aG (d+3) 263 [.str (P (c::r))] ⟨l,S⟩=.ok (.str (P out)) ⟨l,S++J⟩:=by
 obtain⟨r1,r2⟩:=aeF (r:=r) (ho c bw) h0;have hne:c::r≠[]:=by simp
 have hcs:j6 (P (c::r))=out:=by
  unfold j6;simp only[r2,r1,lg hne ho,(by simp:decide (mt≠mt)=false),hout]
 have hp:P out≠mt:=by
  induction out with
  |nil=>exact absurd rfl hn
  |cons z t=>exact(qO (hm z bw).1 (hm z bw).2 t).2
 have hs:I6 (P (c::r))=P out:=by
  unfold I6;rw[hcs,r1];rw[(qC (by rw[yO];rfl):mt++P out=P out),if_neg hp]
 have hff:=yU false (c::r) [];rw[hout,cR,show dI []=0 from rfl]at hff;unfold gh at hf;have hj:=jx (c::r);have hjo:=jx out;have h:=zE d (P (c::r)) l S hk (aV (by lia)) (qO (ho c bw) h0 r).2 (λ q=>absurd q (qO (ho c bw) h0 r).1)
  (by rw[r2,lg hne ho];intro x hx;have:=wA hx;exact aV (by lia))
  (by rw[r2,lg hne ho];exact aV (by lia))
  (by rw[hcs];exact aV (by lia))
  (by rw[hcs];exact aV (by lia))
  (by rw[hcs,r1];exact aV (by show 0+(P out).length<=_;lia))
 rw[hs]at h;exact h
theorem Cg{cs:List Str}(h:gh cs):(P cs).length<=1000/\(R cs).length<=1001:=by
 have:=jx cs;unfold gh at h;refine⟨by exact bT (by assumption) (by assumption),?_⟩;rw[iy,ud,aZ,<-iy];lia
theorem Qc(a b:Str)(ha:a.length<=2000)(hb:b.length<=2000)(l)(S:List O):∃J,aG 8 242 [.str a,.str b] ⟨l,S⟩=.ok (.str (wZ a b)) ⟨l,S++J⟩:=ZR 6 a b l S (aV (by lia))
namespace Ek
variable {own:List Str}{rooted:Bool}{pcs:List Str}{last:Str}(T:Ek own rooted pcs last)
include T
theorem f_at:gh (iM own rooted++gV::(pcs++[last])):=tH T.at_ok.2.1 T.at_ok.2.2 (by decide)
theorem f_goal:gh (bZ own rooted (pcs++[last])):=tH T.goal_small.1 T.goal_small.2 (by decide)
theorem f_own:gh own:=by have:=z7 _ T.hown;unfold gh;lia
theorem f_dir:gh own.dropLast:=tH T.dir_small.1 T.dir_small.2 (by decide)
theorem f_dot:gh (own.dropLast++[gV]):=tH (n:=3) (λ c hc=>by
 rcases aM.mp hc with hc|hc
 ·exact T.dir_small.1 c hc
 ·rw[aJ.mp hc];decide+kernel) (by rw[aq];have:=T.dir_small.2;show _+1<=3;lia) (by decide)
theorem f_back:gh (own.dropLast++lq own (bZ own rooted (pcs++[last]))):=tH T.back_ok.2.1 T.back_ok.2.2 (by decide)
theorem f_out:gh (lq own (bZ own rooted (pcs++[last]))):=tH (n:=20) (λ c hc=>(T.out_ok c hc).2) (by have:=T.back_ok.2.2;rw[aq]at this;lia) (by decide)
theorem f_name:gh ((if rooted then [mt,gV]else [gV])++(pcs++[last])):=tH (n:=7) (λ c hc=>by
 rcases aM.mp hc with hc|hc
 ·have h:∀b:Bool,∀c∈(if b then [mt,gV]else [gV]),c.length<=2:=by decide+kernel
  exact h _ c hc
 ·exact T.ps_ok.2.1 c hc) (by have:=T.ps_ok.2.2;rw[aq];induction rooted<;>simp<;>simp at this<;>lia) (by decide)
theorem f_ps:gh (pcs++[last]):=tH T.ps_ok.2.1 T.ps_ok.2.2 (by decide)
theorem c_folder(l)(S:List O):aG 8 256 [.str (R own)] ⟨l,S⟩=.ok (.str (R own.dropLast)) ⟨l,S++dM⟩:=by
 have h:=ajv _ T.hown;rw[<-h.1];exact PB 6 (R own) l S (aV (by omega)) h.2.1
theorem norm_cons{cs:List Str}(hn:cs≠[])(ho:∀c∈cs,Ok c)(h0:∀c∈cs.head?,c≠mt)(hf:gh cs)(l)(S:List O)(hk:8<=S.length):∃J,aG 8 263 [.str (R cs)] ⟨l,S⟩=.ok (.str (R (nf cs))) ⟨l,S++J⟩:=by
 induction cs with
 |nil=>exact absurd rfl hn
 |cons c r=>exact aex 5 ho (h0 c rfl) hf l S hk
theorem head_nm{as:List Str}{c:Str}{r:List Str}(ha:∀x∈as,Nm x)(hc:c≠mt):∀x∈(as++c::r).head?,x≠mt:=by
 induction as with
 |nil=>rintro x ⟨⟩;exact hc
 |cons a t=>rintro x ⟨⟩;exact(ha a bw).2.1
theorem c_found(l)(S:List O)(hk:8<=S.length):∃J,aG 8 263 [.str (R (iM own rooted++gV::(pcs++[last])))] ⟨l,S⟩=.ok (.str (R (bZ own rooted (pcs++[last])))) ⟨l,S++J⟩:=by
 have:=T.norm_cons (by simp) T.at_ok.1 (T.head_nm T.base_nm uf.2) T.f_at l S hk;rw[T.nf_at]at this;exact this
theorem c_back(l)(S:List O)(hk:8<=S.length):∃J,aG 8 263 [.str (R (own.dropLast++lq own (bZ own rooted (pcs++[last]))))] ⟨l,S⟩=.ok (.str (R (bZ own rooted (pcs++[last])))) ⟨l,S++J⟩:=by
 have h:=T.norm_cons (cs:=own.dropLast++lq own (bZ own rooted (pcs++[last]))) (λ q=>T.out_ne (List.append_eq_nil_iff.mp q).2) (λ c hc=>(T.back_ok.1 c hc).1) (λ c hc=>(T.back_ok.1 c (List.mem_of_mem_head? hc)).2) T.f_back l S hk;rw[T.nf_back]at h;exact h
theorem c_rel(l)(S:List O)(hk:8<=S.length):∃J,aG 8 278 [.str (R (iM own rooted++gV::(pcs++[last]))),.str (R (own.dropLast++[gV]))] ⟨l,S⟩=.ok (.str (P (lq own (bZ own rooted (pcs++[last]))))) ⟨l,S++J⟩:=by
 have h1:=T.at_ok.1;have h2:=T.head_nm (r:=pcs++[last]) T.base_nm uf.2;have h3:=T.f_at;have h4:=T.head_nm (r:=[]) T.dir_nm uf.2;have h5:=T.f_dot;have h6:∀c∈own.dropLast++[gV],Ok c:=λ c hc=>by
  rcases aM.mp hc with hc|hc
  ·exact(T.dir_nm c hc).1
  ·rw[aJ.mp hc];exact uf.1
 have n1:=T.nf_at;have n2:=T.nf_dir;have n3:=T.out_ne;generalize bZ own rooted (pcs++[last])=goal at*;generalize ha:iM own rooted++gV::(pcs++[last])=a at*;generalize hb:own.dropLast++[gV]=b at*;cases a with
 |nil=>exact absurd ha (by simp)
 |cons a r=>
  induction b with
  |nil=>exact absurd hb (by simp)
  |cons b t=>
   exact PN 3 h1 (h2 a rfl) h3 h6 (h4 b rfl) h5 l S hk (i:=(eG own.dropLast goal).length) (by rw[n1,n2]) (by rw[n1,n2];rfl) n3
theorem c_common(l)(S:List O)(hk:8<=S.length){m:Nat}(em:S[m]?=some (.list [.str (R own),.str (R (bZ own rooted (pcs++[last])))])):∃J,aG 8 283 [.ref m] ⟨l,S⟩=.ok (.str (R (eG own (bZ own rooted (pcs++[last]))))) ⟨l,S++J⟩:=by
 have ho:=z7 _ T.hown;exact Gg 6 l S ho.2.2.1 (by rw[T.goal_eq];simp) (λ c hc=>⟨(ho.1 c hc).1,(ho.1 c hc).2.1,(ho.1 c hc).2.2.1⟩) (λ c hc=>⟨(T.goal_nm c hc).1,(T.goal_nm c hc).2.1,(T.goal_nm c hc).2.2.1⟩) T.f_own T.f_goal hk em
theorem c_loose(h:rooted=false)(l)(S:List O)(hk:8<=S.length):∃J,aG 8 263 [.str (qg rooted (pcs++[last]))] ⟨l,S⟩=.ok (.str (P ((pcs++[last]).foldl tG []))) ⟨l,S++J⟩:=by
 subst h;refine ajw 5 (c:=gV) (r:=pcs++[last]) (bO.mpr ⟨uf.1,T.ps_ok.1⟩) uf.2 T.f_name (by rw[eU];exact Qa _ _) ?_ ?_ l S hk
 ·rw[jB,eU,<-Xy,SQ ((Ce _ T.hlast).1)];simp
 ·rw[<-Qa];exact aey false (pcs++[last]) [] (λ c=>Ok c/\c≠mt) nofun λ c hc h1 _=>⟨T.ps_ok.1 c hc,h1⟩
theorem lo_small:gh ((pcs++[last]).foldl tG []):=by
 have:=yU false (pcs++[last]) [];rw[Qa,cR,show dI []=0 from rfl]at this;have h:=T.f_ps;unfold gh at h ⊢;lia
end Ek
theorem gL{L:List (Str×Option V)}{x:Str}{v:V}(h:cF L x=some v)(S:List O):aH x ⟨L,S⟩=.ok v ⟨L,S⟩:=gD h
theorem sL(L:List (Str×Option V))(S:List O)(x:Str)(v:V):aX x v ⟨L,S⟩=⟨dH L x v,S⟩:=rfl
theorem xX(m j:Nat)(h:j≠0)(h2:j<=1000000)(Y:St):nQ .FloorDiv (.int m) (.int j) Y=.ok (.int ((m / j:Nat):Int)) Y:=by
 show(if(j:Int)=0\/1000000 < (j:Int).natAbs then aC.bad else aC.ok (V.int ((m:Int).fdiv j)) Y)=_;rw[if_neg (by lia),Int.ofNat_fdiv]
theorem Ci(m j:Nat)(h:j≠0)(Y:St):nQ .Mod (.int m) (.int j) Y=.ok (.int ((m % j:Nat):Int)) Y:=by
 show(if(j:Int)=0 then aC.bad else aC.ok (V.int ((m:Int).fmod j)) Y)=_;rw[if_neg (by lia),Int.ofNat_fmod]
theorem agp(n:Int)(Y:St):ahD [.int n] Y=.ok (.int n.natAbs) Y:=by
 show aC.ok (V.int (if n < 0 then -n else n)) Y=_;split<;>lia
theorem eq_int(i j:Int)(Y:St):FN (.int i) (.int j) Y=some (i==j):=rfl
noncomputable def Jh(S:List O):Prop:=S[0]?=some (.list ((gj 6).map λ i=>.ref (i+1)))/\∀i f,jk[i]?=some f->S[i+1]?=some (.list (f.map .str))
theorem Jh.push{S J:List O}(h:Jh S):Jh (S++J):=⟨aK h.1,λ i f e=>aK (h.2 i f e)⟩
noncomputable def Cj(m:Nat):List Str:=(jk[m % 6]?).getD []
noncomputable def jE(m:Nat):Bool:=decide (m / 6 % 2=1)
noncomputable def m7(m:Nat):Str:=(Ml[m / 12 % 4]?).getD mt
noncomputable def SX:Nat->Nat->List Str
 |0,_=>[]
 |t+1,r=>(lJ[r % 7]?).getD mt::SX t (r / 7)
noncomputable def zF(m:Nat):List Str:=SX (m / 48 % 5) (m / 240)
theorem Ck:∀t r,(SX t r).length=t
 |0,_=>rfl
 |t+1,r=>by show(SX t (r / 7)).length+1=_;rw[Ck t]
theorem Xz{xs:List Str}{i:Nat}{d:Str}(h:i < xs.length):(xs[i]?).getD d∈xs:=by
 rw[bf h];exact vq h
theorem S5:∀t r,∀c∈SX t r,c∈lJ
 |0,_=>nofun
 |t+1,r=>λ c hc=>by
  rcases bU.mp hc with rfl|hc
  ·exact Xz (lD _ (by decide))
  ·exact S5 t _ c hc
theorem Qd(m:Nat):Ek (Cj m) (jE m) (zF m) (m7 m) where
 hown:=by
  unfold Cj;have h:m % 6 < jk.length:=lD _ (by decide);rw[bf h];exact vq h
 hpcs:=S5 _ _
 few:=by unfold zF;rw[Ck];have:=lD (m / 48) (show 5 > 0 by decide);lia
 hlast:=Xz (lD _ (by decide))
section
variable {cl:Nat->List V->St->aC V}{k:Nat}{L:List (Str×Option V)}{S:List O}
theorem t_0{n:Int}(h:cF L ("number":Str)=some (.int n)):uN cl k ⟨L,S⟩=.ok .next ⟨dH L ("more":Str) (.int n.natAbs),S⟩:=by
 simp only[uN,(gL h),aC.bind_ok,agp,sL]
theorem t_1{m:Nat}(hS:Jh S)(h:cF L ("more":Str)=some (.int m)):uO cl k ⟨L,S⟩=.ok .next ⟨dH L ("own":Str) (.ref (m % 6+1)),S⟩:=by
 have hm:m % 6 < 6:=lD _ (by decide);have md':∀Y,nQ .Mod (.int m) (.int 6) Y=.ok (.int ((m % 6:Nat):Int)) Y:=(Ci m 6 (by decide));simp only[uO,(gL h),aC.bind_ok,md',(yP hS.1 rfl (Gv (by simpa using hm) rfl) (by rw[fU,List.getElem?_range hm];rfl)),dX,sL]
theorem t_2{m:Nat}(h:cF L ("more":Str)=some (.int m)):uP cl k ⟨L,S⟩=.ok .next ⟨dH L ("rooted":Str) (.bool (jE m)),S⟩:=by
 have e1:∀Y,nQ .FloorDiv (.int m) (.int 6) Y=.ok (.int ((m / 6:Nat):Int)) Y:=xX m 6 (by decide) (by decide);have e2:∀Y,nQ .Mod (.int ((m / 6:Nat):Int)) (.int 2) Y=.ok (.int ((m / 6 % 2:Nat):Int)) Y:=Ci (m / 6) 2 (by decide);have e3:∀Y,FN (.int ((m / 6 % 2:Nat):Int)) (.int 1) Y=some (jE m):=λ Y=>by
  simp only[eq_int];unfold jE;congr 1;by_cases q:m / 6 % 2=1
  ·rw[q];rfl
  ·rw[decide_eq_false q];exact beq_eq_false_iff_ne.mpr (by lia)
 simp only[uP,(gL h),aC.bind_ok,e1,e2,e3,aO,sL]
theorem Z8{i:Nat}(h:i < 4)(Y:St):iz (.str ("xyzw":Str)) (.int i) Y=some (.str ((Ml[i]?).getD mt)):=by
 match i,h with
 |0,_=>kernel_rfl
 |1,_=>kernel_rfl
 |2,_=>kernel_rfl
 |3,_=>kernel_rfl
theorem t_3{m:Nat}(h:cF L ("more":Str)=some (.int m)):uQ cl k ⟨L,S⟩=.ok .next ⟨dH L ("last":Str) (.str (m7 m)),S⟩:=by
 have e1:∀Y,nQ .FloorDiv (.int m) (.int 12) Y=.ok (.int ((m / 12:Nat):Int)) Y:=xX m 12 (by decide) (by decide);have e2:∀Y,nQ .Mod (.int ((m / 12:Nat):Int)) (.int 4) Y=.ok (.int ((m / 12 % 4:Nat):Int)) Y:=Ci (m / 12) 4 (by decide);have e3:∀Y,iz (.str ("xyzw":Str)) (.int ((m / 12 % 4:Nat):Int)) Y=some (.str (m7 m)):=Z8 (lD _ (by decide));simp only[uQ,(gL h),aC.bind_ok,e1,e2,e3,dX,sL]
theorem t_4{m:Nat}(h:cF L ("more":Str)=some (.int m)):uR cl k ⟨L,S⟩=.ok .next ⟨dH L ("rest":Str) (.int ((m / 240:Nat):Int)),S⟩:=by
 have e1:∀Y,nQ .FloorDiv (.int m) (.int 240) Y=.ok (.int ((m / 240:Nat):Int)) Y:=xX m 240 (by decide) (by decide);simp only[uR,(gL h),aC.bind_ok,e1,sL]
theorem t_5:yG cl k ⟨L,S⟩=.ok .next ⟨dH L ("pieces":Str) (.ref S.length),S++[.list []]⟩:=rfl
end
section
variable {k:Nat}{L:List (Str×Option V)}{S:List O}
theorem am0{r:Nat}{acc:List Str}{J:List O}(hk:8<=S.length)(hp:cF L ("pieces":Str)=some (.ref S.length))(hr:cF L ("rest":Str)=some (.int r))(hs:small acc.length=true):
  wj (aG 8) k ⟨L,S++[O.list (acc.map .str)]++J⟩=.ok .next ⟨dH L ("rest":Str) (.int ((r / 7:Nat):Int)),S++[O.list ((acc++[(lJ[r % 7]?).getD mt]).map .str)]++(J++[O.list (lJ.map .str)])⟩:=by
 have e1:∀Y,nQ .Mod (.int r) (.int 7) Y=.ok (.int ((r % 7:Nat):Int)) Y:=Ci r 7 (by decide);have e2:∀Y,nQ .FloorDiv (.int r) (.int 7) Y=.ok (.int ((r / 7:Nat):Int)) Y:=xX r 7 (by decide) (by decide);have it:=λ L=>BW (L:=L) (cM (S:=S++[O.list (acc.map V.str)]++J) (.list (lJ.map .str))) rfl (y:=(lJ[r % 7]?).getD mt) (by rw[bf (lD _ (by decide):r % 7 < lJ.length)];rfl)
 have ap:=nC (L:=L) (aK (J:=[O.list (lJ.map .str)]) (tX S (.list (acc.map V.str)) J)) (by rw[au];exact hs) hk (.str ((lJ[r % 7]?).getD mt));rw[aj _ J,acs]at ap;rw[aj _ J]at it;simp only[wj,Bs,Bt,(gL hp),(gL hr),(λ cl live args=>jN (cl:=cl) (live:=live) (args:=args) (L:=L) (tX S (.list (acc.map V.str)) J)),aC.bind_ok,(λ L=>by rw[<-aj];exact(λ L=>Sy 7 L (S++[O.list (acc.map V.str)]++J)) L:∀L,aG 8 297 [] ⟨L,S++[O.list (acc.map V.str)]++J⟩=.ok (.ref (S++[O.list (acc.map V.str)]++J).length) ⟨L,S++[O.list (acc.map V.str)]++(J++[O.list (lJ.map .str)])⟩),e1,it,dX,ap,aQ,e2,sL,aP,cA,gO]
end
theorem Mr{m:Nat}{L L':List (Str×Option V)}{S S':List O}{n:Int}(h:S[m]?=some (.rng n))(h':S'[m]?=some (.rng n)):cW (.ref m) ⟨L,S⟩ ⟨L',S'⟩=true:=Ag h h' rfl
theorem Ms{m:Nat}{L}{S:List O}{n:Nat}(h:S[m]?=some (.rng n)):fD (.ref m) ⟨L,S⟩=some ((gj n).map λ k:Nat=>V.int (k:Int)):=Ni (Y:=⟨L,S⟩) (n:=(n:Int)) h
theorem Ji{n:Nat}(h:n<=1000)(L)(S:List O):CK [.int n] ⟨L,S⟩=.ok (.ref S.length) ⟨L,S++[.rng n]⟩:=if_pos ⟨by lia,by lia⟩
section
variable {k:Nat}{L:List (Str×Option V)}{S:List O}
theorem t_6{m:Nat}{Lf:Option V->Option V->List (Str×Option V)}(hk:8<=S.length)(h1:∀o r v,dH (Lf o r) ("turn":Str) v=Lf (some v) r)(h2:∀o r v,dH (Lf o r) ("rest":Str) v=Lf o (some v))(h3:∀o r,cF (Lf o r) ("pieces":Str)=some (.ref S.length))(h4:∀o v,cF (Lf o (some v)) ("rest":Str)=some v)(h5:∀o r,cF (Lf o r) ("more":Str)=some (.int m))(o0:Option V):
  ∃o r J,uT (aG 8) k ⟨Lf o0 (some (.int ((m / 240:Nat):Int))),S++[.list []]⟩=.ok .next ⟨Lf o r,S++[.list ((zF m).map .str)]++J⟩:=by
 have e1:∀Y,nQ .FloorDiv (.int m) (.int 48) Y=.ok (.int ((m / 48:Nat):Int)) Y:=xX m 48 (by decide) (by decide);have e2:∀Y,nQ .Mod (.int ((m / 48:Nat):Int)) (.int 5) Y=.ok (.int ((m / 48 % 5:Nat):Int)) Y:=Ci (m / 48) 5 (by decide);have ht:m / 48 % 5 < 5:=lD _ (by decide);have e3:=λ L=>Ji (n:=m / 48 % 5) (by lia) L (S++[.list []])
 unfold zF;generalize m / 48 % 5=t at*;have er:=cM (S:=S++[O.list []]) (.rng t);obtain⟨Y',h6,acc,rest,J,o,h7,h8,h9⟩:=mq (f:=λ k:Nat=>V.int (k:Int)) (ok:=cW (.ref (S++[O.list []]).length) ⟨Lf o0 (some (.int ((m / 240:Nat):Int))),S++[.list []]++[.rng t]⟩) (body:=λ v Y=>wj (aG 8) k (aX ("turn":Str) v Y))
  (λ r Y=>∃(acc:List Str) (rest:Nat) (J:List O) (o:Option V),Y=⟨Lf o (some (.int rest)),S++[.list (acc.map .str)]++([.rng t]++J)⟩/\acc++SX r.length rest=SX t (m / 240)/\acc.length<=t)
  (by
   rintro r Y ⟨acc,rest,J,o,rfl,-,-⟩;refine Mr er ?_;simp)
  (by
   rintro c r Y ⟨acc,rest,J,o,rfl,h,hl⟩;have hl2:=congrArg yh h;simp only[aq,Ck,Ck,aZ]at hl2;have hb:=am0 (k:=k) (L:=Lf (some (.int (c:Int))) (some (.int rest))) (r:=rest) (acc:=acc) (J:=[.rng t]++J) hk (h3 _ _) (h4 _ _) (aV (by lia));rw[h2,aj [O.rng _] J]at hb;refine⟨.next,_,.inl rfl,(by rw[sL,h1];exact hb),_,_,_,_,rfl,?_,?_⟩
   ·rw[<-h,aj];rfl
   ·rw[aq];show acc.length+1<=t;lia)
  (gj t) ⟨Lf o0 (some (.int ((m / 240:Nat):Int))),S++[.list []]++[.rng t]⟩
  ⟨[],m / 240,[],o0,rfl,by rw[oN];rfl,dR _⟩
 rw[show SX [].length rest=[]from rfl,aW]at h8;subst h7;refine⟨o,some (.int rest),[.rng t]++J,?_⟩;rw[<-h8];simp only[uT,(gL (h5 o0 (some (.int ((m / 240:Nat):Int))))),aC.bind_ok,e1,e2,e3,lV,(λ L=>Ms (L:=L) er),h6];rfl
theorem t_7{p:Nat}{cs:List Str}{last:Str}(hk:8<=p)(hp:S[p]?=some (.list (cs.map .str)))(h1:cF L ("pieces":Str)=some (.ref p))(h2:cF L ("last":Str)=some (.str last))(hs:small cs.length=true){cl:Nat->List V->St->aC V}:
  uU cl k ⟨L,S⟩=.ok .next ⟨L,S.set p (.list ((cs++[last]).map .str))⟩:=by
 simp only[uU,(gL h1),(gL h2),(λ cl live args=>jN (cl:=cl) (live:=live) (args:=args) (L:=L) hp),aC.bind_ok,(nC (L:=L) hp (by rw[au];exact hs) hk (.str last)),aP,cA,gO]
theorem t_8{p:Nat}{ps:List Str}{b:Bool}(hp:S[p]?=some (.list (ps.map .str)))(h1:cF L ("pieces":Str)=some (.ref p))(h2:cF L ("rooted":Str)=some (.bool b))(hf:gh ((if b then [mt,gV]else [gV])++ps)){cl:Nat->List V->St->aC V}:
  ∃J,pD cl k ⟨L,S⟩=.ok .next ⟨dH L ("name":Str) (.str (qg b ps)),S++J⟩:=by
 have g1:=gL h1;have g2:=gL h2;have core:∀(pre:List Str),gh (pre++ps)->∃J,(∀L,ru (.ref S.length) (.ref p) ⟨L,S++[.list (pre.map .str)]⟩=.ok (.ref (S.length+1)) ⟨L,S++J⟩)/\(∀L,gH .join (.str ("/":Str)) [.ref (S.length+1)] ⟨L,S++J⟩=.ok (.str (P (pre++ps))) ⟨L,S++J⟩):=λ pre hf=>by
  unfold gh at hf;refine⟨[.list (pre.map .str)]++[.list (pre.map V.str++ps.map V.str)],λ L=>?_,λ L=>?_⟩
  ·rw[add_list (cM _) (aK hp) (by rw[au,au,<-aq];exact aV (by lia)),aq,aj];rfl
  ·exact wz (by rw[aP];simp) (aV (by lia)) (aV (by lia))
 unfold qg;clear h2;induction b with
 |true=>
  obtain⟨J,j1,j2⟩:=core [mt,gV] hf;have j1':∀L,ru (.ref S.length) (.ref p) ⟨L,S++[.list [.str ("":Str),.str (".":Str)]]⟩=_:=j1;refine⟨J,?_⟩;simp only[pD,g1,g2,nq,aC.bind_ok,dW,aO,if_true,fG,j1',j2,sL]
 |false=>
  obtain⟨J,j1,j2⟩:=core [gV] hf;have j1':∀L,ru (.ref S.length) (.ref p) ⟨L,S++[.list [.str (".":Str)]]⟩=_:=j1;refine⟨J,?_⟩;simp only[pD,g1,g2,nq,aC.bind_ok,dW,aO,if_false,aF,fG,j1',j2,sL]
theorem t_9{p w:Nat}{ps own:List Str}{b:Bool}(hp:S[p]?=some (.list (ps.map .str)))(hw:S[w]?=some (.list (own.map .str)))(h1:cF L ("pieces":Str)=some (.ref p))(h2:cF L ("rooted":Str)=some (.bool b))(h3:cF L ("own":Str)=some (.ref w))(hs1:ps.length<=1000)(hs2:own.length<=1000):
  ∃J r,pF (aG 8) k ⟨L,S⟩=.ok .next ⟨dH L ("goal":Str) (.ref r),S++J⟩/\(S++J)[r]?=some (.list ((bZ own b ps).map .str)):=by
 have g1:=gL h1;have g2:=gL h2;have hb:(iM own b).length<=1000:=by
  clear h2 g2;induction b
  ·show own.dropLast.length<=_;rw[gC];omega
  ·exact dR _
 obtain⟨r,J,e1,e2⟩:=Z6 7 L (S++[.list ((iM own b).map .str)]) (cM _) (aK hp) (aV (by lia));have e1':aG 8 311 [.ref S.length,.ref p] ⟨L,S++[.list ((iM own b).map .str)]⟩=.ok (.ref r) ⟨L,S++([.list ((iM own b).map .str)]++J)⟩:=by rw[<-aj];exact e1
 refine⟨[.list ((iM own b).map .str)]++J,r,?_,by rw[<-aj];exact e2⟩;unfold iM at e1' ⊢;clear h2 hb e1 e2;induction b with
 |true=>
  simp only[if_true,gO]at e1' ⊢;simp only[pF,g1,g2,aC.bind_ok,dW,aO,if_true,fG,e1',sL]
 |false=>
  simp only[if_false,aF,jz]at e1' ⊢;simp only[pF,g1,g2,(gL h3),aC.bind_ok,dW,aO,if_false,aF,tE,(λ L=>sH (L:=L) hw (by rw[au];exact aV (by lia))),e1',sL]
end
theorem GC(x:Str)(Y:St):vz (.str x) (.str x) Y=some false:=by rw[ne_str,bne_self_eq_false]
section
variable {k:Nat}{L:List (Str×Option V)}{S:List O}{own:List Str}{rooted:Bool}{pcs:List Str}{last:Str}(T:Ek own rooted pcs last)
include T
theorem am1{w:Nat}(hw:S[w]?=some (.list (own.map .str)))(h:cF L ("own":Str)=some (.ref w)):pG (aG 8) k ⟨L,S⟩=.ok .next ⟨dH L ("holder":Str) (.str (R own)),S⟩:=by
 simp only[pG,(gL h),aC.bind_ok,(λ L=>qZ 7 L S hw T.f_own),sL]
theorem am2(h:cF L ("holder":Str)=some (.str (R own))):∃J,pH (aG 8) k ⟨L,S⟩=.ok .next ⟨dH L ("folder":Str) (.str (R own.dropLast)),S++J⟩:=by
 refine⟨dM,?_⟩;simp only[pH,(gL h),aC.bind_ok,T.c_folder,sL]
theorem XC(l)(S:List O)(hk:8<=S.length):∃J,aG 8 242 [.str (R own.dropLast),.str (qg rooted (pcs++[last]))] ⟨l,S⟩=.ok (.str (R (iM own rooted++gV::(pcs++[last])))) ⟨l,S++J⟩:=by
 have h:=Qc (R own.dropLast) (qg rooted (pcs++[last])) (by have:=(Cg T.f_dir).2;lia) (by have:=(Cg T.f_name).1;unfold qg;lia) l S;rw[T.join_name]at h;exact h
theorem am3(hk:8<=S.length)(h1:cF L ("folder":Str)=some (.str (R own.dropLast)))(h2:cF L ("name":Str)=some (.str (qg rooted (pcs++[last])))):
  ∃J,pI (aG 8) k ⟨L,S⟩=.ok .next ⟨dH L ("found":Str) (.str (R (bZ own rooted (pcs++[last])))),S++J⟩:=by
 obtain⟨J1,j1⟩:=XC T L S hk;obtain⟨J2,j2⟩:=T.c_found L (S++J1) (by simp;exact dh _ (by assumption));refine⟨J1++J2,?_⟩;rw[<-aj];simp only[pI,(gL h1),(gL h2),aC.bind_ok,j1,j2,sL]
theorem am4{w r:Nat}(hw:S[w]?=some (.list (own.map .str)))(hr:S[r]?=some (.list ((bZ own rooted (pcs++[last])).map .str)))(h0:cF L ("own":Str)=some (.ref w))(h1:cF L ("folder":Str)=some (.str (R own.dropLast)))(h2:cF L ("found":Str)=some (.str (R (bZ own rooted (pcs++[last])))))(h3:cF L ("goal":Str)=some (.ref r)):
  ∃J,mV (aG 8) k ⟨L,S⟩=.ok .next ⟨L,S++J⟩:=by
 refine⟨[.list (own.map V.str).dropLast],?_⟩;simp only[mV,(gL h0),(gL h1),(gL h2),(gL h3),aC.bind_ok,tE,(λ L=>sH (L:=L) hw (by rw[au];have:=T.f_own;unfold gh at this;exact aV (by lia))),(λ L=>qZ 7 L _ (by rw[cM,jz]) T.f_dir:∀L,aG 8 304 [.ref S.length] ⟨L,S++[.list (own.map V.str).dropLast]⟩=.ok (.str (R own.dropLast)) ⟨L,S++[.list (own.map V.str).dropLast]⟩),(λ L=>qZ 7 L _ (aK hr) T.f_goal:∀L,aG 8 304 [.ref r] ⟨L,S++[.list (own.map V.str).dropLast]⟩=.ok (.str (R (bZ own rooted (pcs++[last])))) ⟨L,S++[.list (own.map V.str).dropLast]⟩),GC,aO,aF,if_false]
theorem am5{p:Nat}(hk:8<=S.length)(hp:S[p]?=some (.list ((pcs++[last]).map .str)))(h0:cF L ("pieces":Str)=some (.ref p))(h1:cF L ("rooted":Str)=some (.bool rooted))(h2:cF L ("name":Str)=some (.str (qg rooted (pcs++[last])))):
  ∃J,kW (aG 8) k ⟨L,S⟩=.ok .next ⟨L,S++J⟩:=by
 have g1:=gL h1;clear h1;induction rooted with
 |true=>
  refine⟨[],?_⟩;rw[aW];simp only[kW,g1,aC.bind_ok,dW,aO,bD,bH,if_true,aF,if_false]
 |false=>
  obtain⟨J1,j1⟩:=T.c_loose rfl L S hk;obtain⟨r,J2,j2,j3⟩:=Wi 7 L (S++J1) (aK hp) (by have:=T.ps_ok.2.2;exact aV (by lia));have hf:=T.lo_small;unfold gh at hf;have j4':gH .join (.str ("/":Str)) [.ref r] ⟨L,S++J1++J2⟩=.ok (.str (P ((pcs++[last]).foldl tG []))) ⟨L,S++J1++J2⟩:=(wz (L:=L) j3 (aV (by lia)) (aV (by lia)));refine⟨J1++J2,?_⟩;rw[<-aj];simp only[kW,(gL h0),g1,(gL h2),aC.bind_ok,dW,aO,bD,bH,if_true,aF,if_false,j1,nq,j2,j4',GC]
theorem am6{w r:Nat}(hw:S[w]?=some (.list (own.map .str)))(hr:S[r]?=some (.list ((bZ own rooted (pcs++[last])).map .str)))(h0:cF L ("own":Str)=some (.ref w))(h3:cF L ("goal":Str)=some (.ref r)):
  ∃J,mW (aG 8) k ⟨L,S⟩=.ok .next ⟨dH L ("same":Str) (.int ((eG own.dropLast (bZ own rooted (pcs++[last]))).length:Nat)),S++J⟩:=by
 have c1:∀L,aG 8 325 [.ref S.length,.ref r] ⟨L,S++[.list (own.map V.str).dropLast]⟩=.ok (.int ((eG own.dropLast (bZ own rooted (pcs++[last]))).length:Nat)) ⟨L,S++[.list (own.map V.str).dropLast]⟩:=λ L=>
  Jg 7 L _ (by rw[cM,jz]) (aK hr) (by have:=T.dir_small.2;lia) (by have:=T.goal_small.2;lia)
 refine⟨[.list (own.map V.str).dropLast],?_⟩;simp only[mW,(gL h0),(gL h3),aC.bind_ok,tE,(λ L=>sH (L:=L) hw (by rw[au];have:=T.f_own;unfold gh at this;exact aV (by lia))),c1,sL]
theorem am7(hk:8<=S.length)(h1:cF L ("folder":Str)=some (.str (R own.dropLast)))(h2:cF L ("name":Str)=some (.str (qg rooted (pcs++[last])))):
  ∃J,mX (aG 8) k ⟨L,S⟩=.ok .next ⟨dH L ("back":Str) (.str (P (lq own (bZ own rooted (pcs++[last]))))),S++J⟩:=by
 obtain⟨J1,j1⟩:=XC T L S hk;obtain⟨J2,j2⟩:=Qc (R own.dropLast) gV (by have:=(Cg T.f_dir).2;lia) (by decide+kernel) L (S++J1);rw[T.join_dot]at j2;have j2':aG 8 242 [.str (R own.dropLast),.str (".":Str)] ⟨L,S++J1⟩=_:=j2;obtain⟨J3,j3⟩:=T.c_rel L (S++J1++J2) (by simp;exact dh _ (by assumption));refine⟨J1++J2++J3,?_⟩;rw[<-aj,<-aj];simp only[mX,(gL h1),(gL h2),aC.bind_ok,j1,j2',j3,sL]
theorem am8{w r:Nat}(hk:8<=S.length)(hw:S[w]?=some (.list (own.map .str)))(hr:S[r]?=some (.list ((bZ own rooted (pcs++[last])).map .str)))(h0:cF L ("own":Str)=some (.ref w))(h1:cF L ("folder":Str)=some (.str (R own.dropLast)))(h2:cF L ("found":Str)=some (.str (R (bZ own rooted (pcs++[last])))))(h3:cF L ("goal":Str)=some (.ref r))
  (h4:cF L ("same":Str)=some (.int ((eG own.dropLast (bZ own rooted (pcs++[last]))).length:Nat))) (h5:cF L ("back":Str)=some (.str (P (lq own (bZ own rooted (pcs++[last])))))):
  ∃J,mY (aG 8) k ⟨L,S⟩=.ok .next ⟨L,S++J⟩:=by
 have ho:=T.f_own;have hgs:=T.goal_small.2;have hle:=yR own.dropLast (bZ own rooted (pcs++[last]));have j3:=λ U=>Qc (R own.dropLast) (P (lq own (bZ own rooted (pcs++[last])))) (by have:=(Cg T.f_dir).2;lia) (by have:=(Cg T.f_out).1;lia) L U
 rw[T.join_back]at j3;have j4:=λ U hU=>T.c_back L U hU
 have eo:lq own (bZ own rooted (pcs++[last]))=bQ (own.dropLast.length - (eG own.dropLast (bZ own rooted (pcs++[last]))).length) dd++(bZ own rooted (pcs++[last])).drop (eG own.dropLast (bZ own rooted (pcs++[last]))).length:=rfl;have hof:=T.f_out;unfold gh at ho hof;generalize lq own (bZ own rooted (pcs++[last]))=out at*;generalize(eG own.dropLast (bZ own rooted (pcs++[last]))).length=c at*;generalize bZ own rooted (pcs++[last])=goal at*;have hol:own.dropLast.length+1=own.length:=by rw[gC];have:=List.length_pos_iff.mpr ((z7 _ T.hown).2.2.1);lia
 have l1:∀L,zH [.ref w] ⟨L,S++[O.list [.str dd]]⟩=.ok (.int own.length) ⟨L,S++[O.list [.str dd]]⟩:=λ L=>by
  have:=uX (L:=L) (aK (J:=[O.list [.str dd]]) hw) (by rw[au];exact aV (by lia));rw[au]at this;exact this
 have s1:∀Y,nQ .Sub (.int (own.length:Int)) (.int 1) Y=.ok (.int ((own.dropLast.length:Nat):Int)) Y:=λ Y=>by
  rw[sub_int,<-hol];congr 2;simp
 obtain⟨n,hn⟩:∃n,(S++[O.list [.str dd]]++[O.list (bQ (own.dropLast.length - c) (V.str dd))]++[O.list ((goal.map V.str).drop c)]).length=n:=⟨_,rfl⟩;have a1:=λ L=>add_list (L:=L) (aK (J:=[O.list ((goal.map V.str).drop c)]) (cM (S:=S++[O.list [.str dd]]) (.list (bQ (own.dropLast.length - c) (V.str dd))))) (cM (S:=S++[O.list [.str dd]]++[O.list (bQ (own.dropLast.length - c) (V.str dd))]) (.list ((goal.map V.str).drop c))) (by rw[j8,eY,au];exact aV (by lia))
 rw[(by rw[eo,aP,List.map_replicate,List.map_drop]:bQ (own.dropLast.length - c) (V.str dd)++(goal.map V.str).drop c=out.map .str)]at a1;obtain⟨U,hU⟩:∃U,S++[O.list [.str dd]]++[O.list (bQ (own.dropLast.length - c) (V.str dd))]++[O.list ((goal.map V.str).drop c)]++[O.list (out.map V.str)]=U:=⟨_,rfl⟩;have pU:S <+: U:=by rw[<-hU];exact(((bC ..).trans (bC ..)).trans (bC ..)).trans (bC ..)
 rw[hU,hn]at a1;obtain⟨J3,j3⟩:=j3 U;have js':gH .join (.str ("/":Str)) [.ref n] ⟨L,U⟩=.ok (.str (P out)) ⟨L,U⟩:=(wz (L:=L) (by rw[<-hU,<-hn];exact cM _:U[n]?=some (.list (out.map .str))) (aV (by lia)) (aV (by lia)));obtain⟨J4,j4⟩:=j4 (U++J3) (by have:=pU.length_le;rw[aq];lia);obtain⟨J,rfl⟩:=pU;have dl:V.str ("..":Str)=V.str dd:=rfl;refine⟨J++J3++J4,?_⟩;rw[<-aj,<-aj];simp only[mY,(gL h0),(gL h1),(gL h2),(gL h3),(gL h4),(gL h5),nq,aC.bind_ok,fG,dl,l1,s1,Xr hle,(λ L=>Mh (L:=L) (cM (S:=S) (.list [.str dd])) (j:=own.dropLast.length - c) (aV (by lia))),(λ L=>qD (L:=L) (aK (J:=[O.list (bQ (own.dropLast.length - c) (V.str dd))]) (aK (J:=[O.list [.str dd]]) hr)) (by rw[au];exact aV (by lia)) (i:=c) (by lia)),a1,js',GC,aO,aF,if_false,j3,j4]
end
section
variable {k:Nat}{L:List (Str×Option V)}{S:List O}{own:List Str}{rooted:Bool}{pcs:List Str}{last:Str}(T:Ek own rooted pcs last)
include T
theorem am9{w r:Nat}(hk:8<=S.length)(hw:S[w]?=some (.list (own.map .str)))(hr:S[r]?=some (.list ((bZ own rooted (pcs++[last])).map .str)))(h0:cF L ("own":Str)=some (.ref w))(h1:cF L ("holder":Str)=some (.str (R own)))(h2:cF L ("found":Str)=some (.str (R (bZ own rooted (pcs++[last])))))(h3:cF L ("goal":Str)=some (.ref r)):
  ∃J,mZ (aG 8) k ⟨L,S⟩=.ok .next ⟨L,S++J⟩:=by
 have ho:=T.f_own;have hgs:=T.goal_small.2;obtain⟨J1,j1⟩:=T.c_common L (S++[.list [.str (R own),.str (R (bZ own rooted (pcs++[last])))]]) (by simp;exact iQ (by assumption)) (cM _);have hc:=j5 own (bZ own rooted (pcs++[last]));have hle:=yR own (bZ own rooted (pcs++[last]));have hcf:gh (eG own (bZ own rooted (pcs++[last]))):=by
  have h:=yS (own.take (eG own (bZ own rooted (pcs++[last]))).length) (own.drop (eG own (bZ own rooted (pcs++[last]))).length);rw[j9,hc]at h;unfold gh at ho ⊢;lia
 unfold gh at ho;generalize bZ own rooted (pcs++[last])=goal at*;obtain⟨U,hU⟩:∃U,S++[O.list [.str (R own),.str (R goal)]]++J1=U:=⟨_,rfl⟩;obtain⟨J,rfl⟩:=(by rw[<-hU,aj];exact bC ..:S <+: U);simp only[hU]at j1;have hw':=aK (J:=J) hw;refine⟨J++[.list ((own.map V.str).take (eG own goal).length)],?_⟩;rw[<-aj];simp only[mZ,(gL h0),(gL h1),(gL h2),(gL h3),aC.bind_ok,fG,j1,(λ L=>Jg 7 L _ hw' (aK (J:=J) hr) (by lia) (by lia)),(λ L=>pY (L:=L) hw' (by rw[au];exact aV (by lia)) (i:=(eG own goal).length) (by lia)),(λ L=>qZ 7 L _ (by rw[cM,<-uo,hc]) hcf:∀L,aG 8 304 [.ref (S++J).length] ⟨L,S++J++[.list ((own.map V.str).take (eG own goal).length)]⟩=.ok (.str (R (eG own goal))) ⟨L,S++J++[.list ((own.map V.str).take (eG own goal).length)]⟩),GC,aO,aF,if_false]
end
structure Os where
 a0:Option V
 a1:Option V
 a2:Option V
 a3:Option V
 a4:Option V
 a5:Option V
 a6:Option V
 a7:Option V
 a8:Option V
 a9:Option V
 a10:Option V
 a11:Option V
 a12:Option V
 a13:Option V
 a14:Option V
 a15:Option V
 a16:Option V
 a17:Option V
 a18:Option V
 a19:Option V
 a20:Option V
 a21:Option V
noncomputable def FB(q:Os):List (Str×Option V):=dK q.a0 q.a1 q.a2 q.a3 q.a4 q.a5 q.a6 q.a7 q.a8 q.a9 q.a10 q.a11 q.a12 q.a13 q.a14 q.a15 q.a16 q.a17 q.a18 q.a19 q.a20 q.a21
noncomputable def Os.s1(q:Os)(o:Option V):Os:={q with a1:=o}
noncomputable def Os.s2(q:Os)(o:Option V):Os:={q with a2:=o}
noncomputable def Os.s3(q:Os)(o:Option V):Os:={q with a3:=o}
noncomputable def Os.s4(q:Os)(o:Option V):Os:={q with a4:=o}
noncomputable def Os.s5(q:Os)(o:Option V):Os:={q with a5:=o}
noncomputable def Os.s6(q:Os)(o:Option V):Os:={q with a6:=o}
noncomputable def Os.s7(q:Os)(o:Option V):Os:={q with a7:=o}
noncomputable def Os.s8(q:Os)(o:Option V):Os:={q with a8:=o}
noncomputable def Os.s9(q:Os)(o:Option V):Os:={q with a9:=o}
noncomputable def Os.s10(q:Os)(o:Option V):Os:={q with a10:=o}
noncomputable def Os.s11(q:Os)(o:Option V):Os:={q with a11:=o}
noncomputable def Os.s12(q:Os)(o:Option V):Os:={q with a12:=o}
noncomputable def Os.s13(q:Os)(o:Option V):Os:={q with a13:=o}
noncomputable def Os.s14(q:Os)(o:Option V):Os:={q with a14:=o}
noncomputable def Os.s15(q:Os)(o:Option V):Os:={q with a15:=o}
noncomputable def Os.s16(q:Os)(o:Option V):Os:={q with a16:=o}
noncomputable def Os.s17(q:Os)(o:Option V):Os:={q with a17:=o}
noncomputable def Os.s18(q:Os)(o:Option V):Os:={q with a18:=o}
noncomputable def Os.s19(q:Os)(o:Option V):Os:={q with a19:=o}
noncomputable def Os.s20(q:Os)(o:Option V):Os:={q with a20:=o}
noncomputable def Os.s21(q:Os)(o:Option V):Os:={q with a21:=o}
section
variable {q:Os}{m k:Nat}{n:Int}{S:List O}{r:St->aC Fl}
theorem ajx(hn:n.natAbs=m)(hq:q.a3=some (.int n))(hk:8<=S.length)(hS:Jh S):
  ∃J q8 q10,(aA (uN (aG 8) k ⟨FB q,S⟩) λ Y=>aA (uO (aG 8) k Y) λ Y=>aA (uP (aG 8) k Y) λ Y=>aA (uQ (aG 8) k Y) λ Y=>aA (uR (aG 8) k Y) λ Y=>aA (yG (aG 8) k Y) λ Y=>aA (uT (aG 8) k Y) λ Y=>aA (uU (aG 8) k Y) r)=
   r ⟨FB ((((((((q.s4 (some (.int m))).s5 (some (.ref (m % 6+1)))).s6 (some (.bool (jE m)))).s7 (some (.str (m7 m)))).s9 (some (.ref S.length))).s10 q10).s8 q8)),S++J⟩/\(S++J)[S.length]?=some (.list ((zF m++[m7 m]).map .str)):=by
 have hfew:=(Qd m).few;obtain⟨q10,q8,J0,h6⟩:=t_6 (k:=k) (S:=S) (m:=m) (Lf:=λ a b=>FB ((((((((q.s4 (some (.int m))).s5 (some (.ref (m % 6+1)))).s6 (some (.bool (jE m)))).s7 (some (.str (m7 m)))).s9 (some (.ref S.length))).s10 a).s8 b))) hk (λ _ _ _=>rfl) (λ _ _ _=>rfl) (λ _ _=>rfl) (λ _ _=>rfl) (λ _ _=>rfl) q.a10;refine⟨[.list ((zF m++[m7 m]).map .str)]++J0,q8,q10,?_,by rw[<-aj];exact tX _ _ _⟩;rw[t_0 (L:=FB q) (n:=n) hq,aQ,hn,t_1 (m:=m) hS rfl,aQ,t_2 (m:=m) rfl,aQ,t_3 (m:=m) rfl,aQ,t_4 (m:=m) rfl,aQ,t_5,aQ];rw[(by kernel_rfl:dH (dH (dH (dH (dH (dH (FB q) ("more":Str) (.int m)) ("own":Str) (.ref (m % 6+1))) ("rooted":Str) (.bool (jE m))) ("last":Str) (.str (m7 m))) ("rest":Str) (.int ((m / 240:Nat):Int))) ("pieces":Str) (.ref S.length)=FB (((((((q.s4 (some (.int m))).s5 (some (.ref (m % 6+1)))).s6 (some (.bool (jE m)))).s7 (some (.str (m7 m)))).s9 (some (.ref S.length))).s10 q.a10).s8 (some (.int ((m / 240:Nat):Int))))),h6,aQ,t_7 (p:=S.length) (cs:=zF m) (last:=m7 m) hk (tX _ _ _) rfl rfl (aV (by lia)),aQ,acs,aj]
end
section
variable {q:Os}{k w p:Nat}{S:List O}{r:St->aC Fl}{own:List Str}{rooted:Bool}{pcs:List Str}{last:Str}(T:Ek own rooted pcs last)
include T
theorem ajy(h5:q.a5=some (.ref w))(h6:q.a6=some (.bool rooted))(h9:q.a9=some (.ref p))(hk:8<=S.length)(hw:S[w]?=some (.list (own.map .str)))(hp:S[p]?=some (.list ((pcs++[last]).map .str))):
  ∃J g,(aA (pD (aG 8) k ⟨FB q,S⟩) λ Y=>aA (pF (aG 8) k Y) λ Y=>aA (pG (aG 8) k Y) λ Y=>aA (pH (aG 8) k Y) λ Y=>aA (pI (aG 8) k Y) r)=
   r ⟨FB (((((q.s11 (some (.str (qg rooted (pcs++[last]))))).s12 (some (.ref g))).s13 (some (.str (R own)))).s14 (some (.str (R own.dropLast)))).s15 (some (.str (R (bZ own rooted (pcs++[last])))))),S++J⟩/\(S++J)[g]?=some (.list ((bZ own rooted (pcs++[last])).map .str)):=by
 obtain⟨J8,e8⟩:=t_8 (k:=k) (cl:=aG 8) (L:=FB q) hp h9 h6 T.f_name;obtain⟨J9,g,e9,Ug⟩:=t_9 (k:=k) (L:=FB (q.s11 (some (.str (qg rooted (pcs++[last])))))) (b:=rooted) (aK (J:=J8) hp) (aK hw) h9 h6 h5 (by have:=T.ps_ok.2.2;lia) (by have:=T.f_own;unfold gh at this;lia);obtain⟨J11,e11⟩:=am2 T (k:=k) (S:=S++J8++J9) (L:=FB (((q.s11 (some (.str (qg rooted (pcs++[last]))))).s12 (some (.ref g))).s13 (some (.str (R own))))) rfl;obtain⟨J12,e12⟩:=am3 T (k:=k) (S:=S++J8++J9++J11) (L:=FB ((((q.s11 (some (.str (qg rooted (pcs++[last]))))).s12 (some (.ref g))).s13 (some (.str (R own)))).s14 (some (.str (R own.dropLast))))) (by rw[aq,aq,aq];lia) rfl rfl;refine⟨J8++J9++J11++J12,g,?_,?_⟩
 ·simp only[e8,aQ];refine(congrArg (λ r'=>aA r' _) e9).trans ?_;simp only[aQ];refine(congrArg (λ r'=>aA r' _) (am1 T (L:=FB ((q.s11 (some (.str (qg rooted (pcs++[last]))))).s12 (some (.ref g)))) (aK (J:=J9) (aK (J:=J8) hw)) h5)).trans ?_;simp only[aQ];refine(congrArg (λ r'=>aA r' _) e11).trans ?_;refine(congrArg (λ r'=>aA r' _) e12).trans ?_;simp only[aj];rfl
 ·have:=aK (J:=J12) (aK (J:=J11) Ug);simp only[aj]at this ⊢;exact this
theorem ajz{g:Nat}(h5:q.a5=some (.ref w))(h6:q.a6=some (.bool rooted))(h9:q.a9=some (.ref p))(h11:q.a11=some (.str (qg rooted (pcs++[last]))))(h12:q.a12=some (.ref g))(h13:q.a13=some (.str (R own)))(h14:q.a14=some (.str (R own.dropLast)))(h15:q.a15=some (.str (R (bZ own rooted (pcs++[last])))))(hk:8<=S.length)(hw:S[w]?=some (.list (own.map .str)))(hp:S[p]?=some (.list ((pcs++[last]).map .str)))(hg:S[g]?=some (.list ((bZ own rooted (pcs++[last])).map .str))):
  ∃J q16 q17,(aA (mV (aG 8) k ⟨FB q,S⟩) λ Y=>aA (kW (aG 8) k Y) λ Y=>aA (mW (aG 8) k Y) λ Y=>aA (mX (aG 8) k Y) λ Y=>aA (mY (aG 8) k Y) λ Y=>aA (mZ (aG 8) k Y) r)=r ⟨FB ((q.s16 q16).s17 q17),S++J⟩:=by
 obtain⟨J13,e13⟩:=am4 T (k:=k) (L:=FB q) hw hg h5 h14 h15 h12;obtain⟨J14,e14⟩:=am5 T (k:=k) (L:=FB q) (S:=S++J13) (by rw[aq];lia) (aK hp) h9 h6 h11;obtain⟨J15,e15⟩:=am6 T (k:=k) (L:=FB q) (S:=S++J13++J14) (aK (aK hw)) (aK (aK hg)) h5 h12;have pX:S <+: S++J13++J14++J15:=((bC ..).trans (bC ..)).trans (bC ..);have Xw:=aK (J:=J15) (aK (J:=J14) (aK (J:=J13) hw));have Xg:=aK (J:=J15) (aK (J:=J14) (aK (J:=J13) hg));generalize S++J13++J14++J15=X at*;have kX:8<=X.length:=bT hk pX.length_le;obtain⟨J16,e16⟩:=am7 T (k:=k) (S:=X) (L:=FB (q.s16 (some (.int ((eG own.dropLast (bZ own rooted (pcs++[last]))).length:Nat))))) kX h14 h11;have kY:8<=(X++J16).length:=by rw[aq];lia
 obtain⟨J17,e17⟩:=am8 T (k:=k) (S:=X++J16) (L:=FB ((q.s16 (some (.int ((eG own.dropLast (bZ own rooted (pcs++[last]))).length:Nat)))).s17 (some (.str (P (lq own (bZ own rooted (pcs++[last])))))))) kY (aK Xw) (aK Xg) h5 h14 h15 h12 rfl rfl;obtain⟨J18,e18⟩:=am9 T (k:=k) (S:=X++J16++J17) (L:=FB ((q.s16 (some (.int ((eG own.dropLast (bZ own rooted (pcs++[last]))).length:Nat)))).s17 (some (.str (P (lq own (bZ own rooted (pcs++[last])))))))) (by rw[aq];exact dh _ (by assumption)) (aK (aK Xw)) (aK (aK Xg)) h5 h13 h15 h12;obtain⟨J,hJ⟩:S <+: X++J16++J17++J18:=((pX.trans (bC ..)).trans (bC ..)).trans (bC ..);refine⟨J,some (.int ((eG own.dropLast (bZ own rooted (pcs++[last]))).length:Nat)),some (.str (P (lq own (bZ own rooted (pcs++[last]))))),?_⟩;simp only[hJ,e13,e14,e15,aQ];refine(congrArg (λ r'=>aA r' _) e16).trans ?_;simp only[aQ];refine(congrArg (λ r'=>aA r' _) e17).trans ?_;refine(congrArg (λ r'=>aA r' _) e18).trans ?_;rfl
end
structure Os.Same(q q':Os):Prop where
 e0:q'.a0=q.a0
 e1:q'.a1=q.a1
 e3:q'.a3=q.a3
theorem Z9{q:Os}{m k:Nat}{n:Int}{S:List O}(hn:n.natAbs=m)(hq:q.a3=some (.int n))(hk:8<=S.length)(hS:Jh S)(r:St->aC Fl):
  ∃J q',(aA (uN (aG 8) k ⟨FB q,S⟩) λ Y=>aA (uO (aG 8) k Y) λ Y=>aA (uP (aG 8) k Y) λ Y=>aA (uQ (aG 8) k Y) λ Y=>aA (uR (aG 8) k Y) λ Y=>aA (yG (aG 8) k Y) λ Y=>aA (uT (aG 8) k Y) λ Y=>aA (uU (aG 8) k Y) λ Y=>aA (pD (aG 8) k Y) λ Y=>aA (pF (aG 8) k Y) λ Y=>aA (pG (aG 8) k Y) λ Y=>aA (pH (aG 8) k Y) λ Y=>aA (pI (aG 8) k Y) λ Y=>aA (mV (aG 8) k Y) λ Y=>aA (kW (aG 8) k Y) λ Y=>aA (mW (aG 8) k Y) λ Y=>aA (mX (aG 8) k Y) λ Y=>aA (mY (aG 8) k Y) λ Y=>aA (mZ (aG 8) k Y) r)=r ⟨FB q',S++J⟩/\
   q.Same q'/\q'.a13=some (.str (R (Cj m)))/\q'.a15=some (.str (R (bZ (Cj m) (jE m) (zF m++[m7 m])))):=by
 have hown:jk[m % 6]?=some (Cj m):=by
  unfold Cj;rw[bf (lD _ (by decide):m % 6 < jk.length)];rfl
 have hw:=hS.2 _ _ hown;obtain⟨J1,q8,q10,e1,p1⟩:=ajx (k:=k) (r:=λ Y=>aA (pD (aG 8) k Y) λ Y=>aA (pF (aG 8) k Y) λ Y=>aA (pG (aG 8) k Y) λ Y=>aA (pH (aG 8) k Y) λ Y=>aA (pI (aG 8) k Y) λ Y=>aA (mV (aG 8) k Y) λ Y=>aA (kW (aG 8) k Y) λ Y=>aA (mW (aG 8) k Y) λ Y=>aA (mX (aG 8) k Y) λ Y=>aA (mY (aG 8) k Y) λ Y=>aA (mZ (aG 8) k Y) r) hn hq hk hS;have k1:8<=(S++J1).length:=by rw[aq];lia
 obtain⟨J2,g,e2,p2⟩:=ajy (Qd m) (k:=k) (r:=λ Y=>aA (mV (aG 8) k Y) λ Y=>aA (kW (aG 8) k Y) λ Y=>aA (mW (aG 8) k Y) λ Y=>aA (mX (aG 8) k Y) λ Y=>aA (mY (aG 8) k Y) λ Y=>aA (mZ (aG 8) k Y) r) (q:=((((((((q.s4 (some (.int m))).s5 (some (.ref (m % 6+1)))).s6 (some (.bool (jE m)))).s7 (some (.str (m7 m)))).s9 (some (.ref S.length))).s10 q10).s8 q8))) (by kernel_rfl) (by kernel_rfl) (by kernel_rfl) k1 (aK hw) p1;have k2:8<=(S++J1++J2).length:=by rw[aq];exact dh _ (by assumption)
 obtain⟨J3,q16,q17,e3⟩:=ajz (Qd m) (k:=k) (r:=r) (S:=S++J1++J2) (q:=(((((((((((((q.s4 (some (.int m))).s5 (some (.ref (m % 6+1)))).s6 (some (.bool (jE m)))).s7 (some (.str (m7 m)))).s9 (some (.ref S.length))).s10 q10).s8 q8))).s11 (some (.str (qg (jE m) (zF m++[m7 m]))))).s12 (some (.ref g))).s13 (some (.str (R (Cj m))))).s14 (some (.str (R (Cj m).dropLast)))).s15 (some (.str (R (bZ (Cj m) (jE m) (zF m++[m7 m])))))) (by kernel_rfl) (by kernel_rfl) (by kernel_rfl) (by kernel_rfl) (by kernel_rfl) (by kernel_rfl) (by kernel_rfl) (by kernel_rfl) k2 (aK (aK hw)) (aK p1) p2;have e:=e1.trans (e2.trans e3);simp only[aj]at e;exact⟨_,_,e,⟨by kernel_rfl,by kernel_rfl,by kernel_rfl⟩,by kernel_rfl,by kernel_rfl⟩
noncomputable def upd{α:Type}(f:Str->α)(v:Str)(x:α):Str->α:=λ w=>if w=v then x else f w
theorem dB{α:Type}(f:Str->α)(v:Str)(x:α):upd f v x v=x:=if_pos rfl
theorem eH{α:Type}(f:Str->α){v w:Str}(x:α)(h:w≠v):upd f v x w=f w:=if_neg h
structure G where
 i:Nat
 fd:Nat
 d:Nat
 N:List Str
 at_:Str->Nat
 dd:Str->Nat
 sl:Str->Nat
 np:Str->Int
 su:Str->List Str
 rd:Option Nat
 rl:List Str
 po:Int
 nf:Int
noncomputable def rdV(o:Option Nat):V:=match o with
 |none=>.none
 |some r=>.ref r
noncomputable def sX(d:Nat)(rd:Option Nat)(po nf:Int):List (Str×V):=[("_node2info",.ref d),("_ready_nodes",rdV rd),("_npassedout",.int po),("_nfinished",.int nf)]
noncomputable def Wk(g:G)(v:Str)(n:Int):O:=.node (g.dd v) [some (.str v),some (.int n),some (.ref (g.sl v))]
structure fM(S:List O)(g:G):Prop where
 inst:S[g.i]?=some (.inst g.fd)
 fld:∃ep,S[g.fd]?=some (.dict (sX g.d g.rd g.po g.nf) ep)
 dct:∃ep,S[g.d]?=some (.dict (g.N.map λ v=>(v,.ref (g.at_ v))) ep)
 nod:∀v∈g.N,S[g.at_ v]?=some (Wk g v (g.np v))
 suc:∀v∈g.N,S[g.sl v]?=some (.list ((g.su v).map .str))
 nd:g.N.Nodup
 inj:∀v∈g.N,∀w∈g.N,g.sl v=g.sl w->v=w
 fdd:g.fd≠g.d
 ge:8<=g.fd/\8<=g.d/\∀v∈g.N,8<=g.at_ v/\8<=g.sl v
 len:g.N.length<=60
 sul:∀v,(g.su v).length<=1000
 off:∀v,v∉g.N->g.np v=0/\g.su v=[]
 rdy:∀r,g.rd=some r->8<=r/\S[r]?=some (.list (g.rl.map .str))/\(∀v∈g.N,g.sl v≠r)/\g.rl.length<=1000
noncomputable def qQ(g:G)(a:Nat):Prop:=a=g.fd\/a=g.d\/(∃v∈g.N,a=g.at_ v\/a=g.sl v)\/g.rd=some a
structure iH(S:List O)(g:G)(S':List O)(g':G):Prop where
 keep:∀a o,S[a]?=some o->¬ qQ g a->S'[a]?=some o
 grow:∀a,qQ g' a->qQ g a\/S.length<=a
 len:S.length<=S'.length
 same:g'.i=g.i
theorem cT{S:List O}{a:Nat}{o:O}(h:S[a]?=some o):a < S.length:=(aN.mp h).1
theorem iH.refl(S:List O)(g:G):iH S g S g:=⟨λ _ _ h _=>h,λ _ h=>.inl h,bV _,rfl⟩
theorem iH.trans{S g S' g' S'' g''}(a:iH S g S' g')(b:iH S' g' S'' g''):iH S g S'' g'':=by
 refine⟨λ x o h hm=>b.keep x o (a.keep x o h hm) λ q=>?_,λ x h=>?_,bT a.len b.len,b.same.trans a.same⟩
 ·rcases a.grow x q with q|q
  ·exact hm q
  ·have:=cT h;lia
 ·rcases b.grow x h with q|q
  ·exact a.grow x q
  ·exact .inr (bT a.len q)
theorem iH.push(S J:List O)(g:G):iH S g (S++J) g:=⟨λ _ _ h _=>aK h,λ _ h=>.inl h,by rw[aq];lia,rfl⟩
theorem iH.set{S:List O}{g g':G}{a:Nat}(o:O)(ha:qQ g a)(hm:∀x,qQ g' x->qQ g x)(hi:g'.i=g.i):iH S g (S.set a o) g':=
 ⟨λ x o h hx=>by rw[aY (show a≠x from λ q=>hx (by rw[<-q];exact ha))];exact h,λ x h=>.inl (hm x h),by rw[dw];exact bV _,hi⟩
theorem jF{S:List O}{a b:Nat}{x y:O}(ha:S[a]?=some x)(hb:S[b]?=some y)(h:x≠y):a≠b:=λ q=>by
 subst q;rw[ha]at hb;exact h (Option.some.inj hb)
theorem bN{S:List O}{a b:Nat}{x y:O}(o:O)(ha:S[a]?=some x)(hb:S[b]?=some y)(h:x≠y):(S.set a o)[b]?=some y:=by
 rw[aY (jF ha hb h)];exact hb
theorem pK{S:List O}{a:Nat}{x:O}(o:O)(ha:S[a]?=some x):(S.set a o)[a]?=some o:=bR (cT ha)
namespace fM
variable {S:List O}{g:G}
theorem push(h:fM S g)(J:List O):fM (S++J) g where
 inst:=aK h.inst
 fld:=let ⟨ep,e⟩:=h.fld;⟨ep,aK e⟩
 dct:=let ⟨ep,e⟩:=h.dct;⟨ep,aK e⟩
 nod v hv:=aK (h.nod v hv)
 suc v hv:=aK (h.suc v hv)
 nd:=h.nd
 inj:=h.inj
 fdd:=h.fdd
 ge:=h.ge
 len:=h.len
 sul:=h.sul
 off:=h.off
 rdy r e:=let ⟨a,b,c⟩:=h.rdy r e;⟨a,aK b,c⟩
theorem other(h:fM S g){a:Nat}(ha:¬ qQ g a)(hi:a≠g.i)(o:O):fM (S.set a o) g:=by
 have ne:∀{b y},qQ g b->S[b]?=some y->(S.set a o)[b]?=some y:=λ{b y} hb e=>by rw[aY (show a≠b from λ q=>ha (by rw[q];exact hb))];exact e
 exact{
  inst:=by rw[aY hi];exact h.inst
  fld:=let ⟨ep,e⟩:=h.fld;⟨ep,ne (.inl rfl) e⟩
  dct:=let ⟨ep,e⟩:=h.dct;⟨ep,ne (.inr (.inl rfl)) e⟩
  nod:=λ v hv=>ne (.inr (.inr (.inl ⟨v,hv,.inl rfl⟩))) (h.nod v hv)
  suc:=λ v hv=>ne (.inr (.inr (.inl ⟨v,hv,.inr rfl⟩))) (h.suc v hv)
  nd:=h.nd,inj:=h.inj,fdd:=h.fdd,ge:=h.ge,len:=h.len,sul:=h.sul,off:=h.off
  rdy:=λ r e=>let ⟨a,b,c⟩:=h.rdy r e;⟨a,ne (.inr (.inr (.inr e))) b,c⟩}
theorem setNp(h:fM S g){v:Str}(hv:v∈g.N)(n:Int):fM (S.set (g.at_ v) (Wk g v n)) {g with np:=upd g.np v n} where
 inst:=bN _ (h.nod v hv) h.inst nofun
 fld:=let ⟨ep,e⟩:=h.fld;⟨ep,bN _ (h.nod v hv) e nofun⟩
 dct:=let ⟨ep,e⟩:=h.dct;⟨ep,bN _ (h.nod v hv) e nofun⟩
 nod w hw:=by
  by_cases q:w=v
  ·subst q;show(S.set (g.at_ w) (Wk g w n))[g.at_ w]?=some (Wk g w (upd g.np w n w));rw[dB];exact pK _ (h.nod w hw)
  ·show(S.set (g.at_ v) (Wk g v n))[g.at_ w]?=some (Wk g w (upd g.np v n w));rw[eH _ _ q];refine bN _ (h.nod v hv) (h.nod w hw) λ e=>?_
   injection e with _ e
   injection e with e _
   injection e with e
   injection e with e
   exact q e.symm
 suc w hw:=bN _ (h.nod v hv) (h.suc w hw) nofun
 nd:=h.nd
 inj:=h.inj
 fdd:=h.fdd
 ge:=h.ge
 len:=h.len
 sul:=h.sul
 off w hw:=⟨(eH _ _ (λ q=>hw (by rw[q];exact hv))).trans (h.off w hw).1,(h.off w hw).2⟩
 rdy r e:=let ⟨a,b,c⟩:=h.rdy r e;⟨a,bN _ (h.nod v hv) b nofun,c⟩
theorem setSu(h:fM S g){v:Str}(hv:v∈g.N)(xs:List Str)(hl:xs.length<=1000):fM (S.set (g.sl v) (.list (xs.map .str))) {g with su:=upd g.su v xs} where
 inst:=bN _ (h.suc v hv) h.inst nofun
 fld:=let ⟨ep,e⟩:=h.fld;⟨ep,bN _ (h.suc v hv) e nofun⟩
 dct:=let ⟨ep,e⟩:=h.dct;⟨ep,bN _ (h.suc v hv) e nofun⟩
 nod w hw:=bN _ (h.suc v hv) (h.nod w hw) nofun
 suc w hw:=by
  by_cases q:w=v
  ·clear hv;subst q;show(S.set (g.sl w) (.list (xs.map .str)))[g.sl w]?=some (.list ((upd g.su w xs w).map .str));rw[dB];exact pK _ (h.suc w hw)
  ·show(S.set (g.sl v) (.list (xs.map .str)))[g.sl w]?=some (.list ((upd g.su v xs w).map .str));rw[eH _ _ q,aY (λ e=>q (h.inj v hv w hw e).symm)];exact h.suc w hw
 nd:=h.nd
 inj:=h.inj
 fdd:=h.fdd
 ge:=h.ge
 len:=h.len
 sul w:=by
  show(upd g.su v xs w).length<=1000;unfold upd;split
  ·exact hl
  ·exact h.sul w
 off w hw:=⟨(h.off w hw).1,(eH _ _ (λ q=>hw (by rw[q];exact hv))).trans (h.off w hw).2⟩
 rdy r e:=let ⟨a,b,c,e'⟩:=h.rdy r e;⟨a,by rw[aY (c v hv)];exact b,c,e'⟩
theorem setFld(h:fM S g)(rd:Option Nat)(rl:List Str)(po nf:Int)(ep:Nat)(hr:∀r,rd=some r->8<=r/\S[r]?=some (.list (rl.map .str))/\(∀v∈g.N,g.sl v≠r)/\rl.length<=1000):fM (S.set g.fd (.dict (sX g.d rd po nf) ep)) {g with rd:=rd,rl:=rl,po:=po,nf:=nf}:=
 let ⟨_,ef⟩:=h.fld
 {inst:=bN _ ef h.inst nofun
  fld:=⟨ep,pK _ ef⟩
  dct:=let ⟨ep,e⟩:=h.dct;⟨ep,by rw[aY h.fdd];exact e⟩
  nod:=λ v hv=>bN _ ef (h.nod v hv) nofun
  suc:=λ v hv=>bN _ ef (h.suc v hv) nofun
  nd:=h.nd,inj:=h.inj,fdd:=h.fdd,ge:=h.ge,len:=h.len,sul:=h.sul,off:=h.off
  rdy:=λ r e=>let ⟨a,b,c⟩:=hr r e;⟨a,bN _ ef b nofun,c⟩}
theorem setRl(h:fM S g){r:Nat}(hr:g.rd=some r)(rl:List Str)(hl:rl.length<=1000):fM (S.set r (.list (rl.map .str))) {g with rl:=rl}:=
 have e0:=(h.rdy r hr).2.1
 {inst:=bN _ e0 h.inst nofun
  fld:=let ⟨ep,e⟩:=h.fld;⟨ep,bN _ e0 e nofun⟩
  dct:=let ⟨ep,e⟩:=h.dct;⟨ep,bN _ e0 e nofun⟩
  nod:=λ v hv=>bN _ e0 (h.nod v hv) nofun
  suc:=λ v hv=>by rw[aY (λ q=>(h.rdy r hr).2.2.1 v hv q.symm)];exact h.suc v hv
  nd:=h.nd,inj:=h.inj,fdd:=h.fdd,ge:=h.ge,len:=h.len,sul:=h.sul,off:=h.off
  rdy:=λ r' e=>by
   cases hr.symm.trans e;exact⟨(h.rdy r hr).1,pK _ e0,(h.rdy r hr).2.2.1,hl⟩}
end fM
section
variable {L:List (Str×Option V)}{S:List O}
theorem aac{i fd:Nat}{kvs:List (Str×V)}{ep:Nat}{x:Str}{v:V}(hi:S[i]?=some (.inst fd))(hf:S[fd]?=some (.dict kvs ep))(hx:fP.contains x=true)(hv:kvs.lookup x=some v):fu (.ref i) x ⟨L,S⟩=.ok v ⟨L,S⟩:=by
 refine(gD hi).trans ((if_pos hx).trans ?_);rw[ur hf];exact gD hv
theorem Cm{i fd:Nat}{kvs:List (Str×V)}{ep:Nat}{x:Str}{v:V}(hi:S[i]?=some (.inst fd))(hf:S[fd]?=some (.dict kvs ep))(hx:fP.contains x=true)(hl:kvs.length < 100)(hk:8<=fd):dz (.ref i) x v ⟨L,S⟩=.ok .none ⟨L,S.set fd (g8 kvs ep x v)⟩:=by
 refine(gD hi).trans ((if_pos hx).trans ?_);rw[ur hf];exact(if_pos (decide_eq_true hl)).trans (if_pos hk)
theorem Em{i dd k:Nat}{fs:List (Option V)}{x:Str}{v:V}(hi:S[i]?=some (.node dd fs))(hx:Cz x=some k)(hv:fs[k]?=some (some v)):fu (.ref i) x ⟨L,S⟩=.ok v ⟨L,S⟩:=(gD hi).trans ((gD hx).trans (gD hv))
theorem qR{i dd k:Nat}{fs:List (Option V)}{x:Str}{v:V}(hi:S[i]?=some (.node dd fs))(hx:Cz x=some k)(hk:k < fs.length)(h8:8<=i):dz (.ref i) x v ⟨L,S⟩=.ok .none ⟨L,S.set i (.node dd (fs.set k (some v)))⟩:=(gD hi).trans ((gD hx).trans ((if_pos (decide_eq_true hk)).trans (if_pos h8)))
theorem Eo{d ep:Nat}{kvs:List (Str×V)}(e:S[d]?=some (.dict kvs ep))(x:Str):iz (.ref d) (.str x) ⟨L,S⟩=kvs.lookup x:=dY e
theorem aeG{d ep:Nat}{kvs:List (Str×V)}(e:S[d]?=some (.dict kvs ep))(x:Str):gH .get (.ref d) [.str x] ⟨L,S⟩=.ok ((kvs.lookup x).getD .none) ⟨L,S⟩:=gD e
theorem qT{d ep:Nat}{kvs:List (Str×V)}(e:S[d]?=some (.dict kvs ep))(hs:small kvs.length=true)(hk:8<=d)(x:Str)(v:V):p7 (.ref d) (.str x) v ⟨L,S⟩=.ok .none ⟨L,S.set d (g8 kvs ep x v)⟩:=by
 show onS (St.dict? ⟨L,S⟩ d) _=_;rw[ur e];exact(if_pos hs).trans (if_pos hk)
end
theorem Mt{cl:Nat->List V->St->aC V}{live:Bool}{args:St->aC (List V)}{name:Str}{m:Me}{n ep:Nat}{kvs:List (Str×V)}{L}{S:List O}(h:CJ.lookup name=some m)(e:S[n]?=some (.dict kvs ep)):cZ cl live name args (.ref n) ⟨L,S⟩=(args ⟨L,S⟩).bind λ vs Y=>gH m (.ref n) vs Y:=by
 unfold cZ;rw[show pR (.ref n) name ⟨L,S⟩=some (.bi m)from(dY e).trans (congrArg (wG vA.bi) h)]
theorem Jj{cl:Nat->List V->St->aC V}{live:Bool}{args:St->aC (List V)}{n ep:Nat}{kvs:List (Str×V)}{L}{S:List O}(e:S[n]?=some (.dict kvs ep)):cZ cl live ("get":Str) args (.ref n) ⟨L,S⟩=(args ⟨L,S⟩).bind λ vs Y=>gH .get (.ref n) vs Y:=Mt (by kernel_rfl) e
theorem aad{cl:Nat->List V->St->aC V}{args:St->aC (List V)}{name:Str}{f:Nat}{L}{S:List O}{i fd ep:Nat}{kvs:List (Str×V)}(hi:S[i]?=some (.inst fd))(hf:S[fd]?=some (.dict kvs ep))(hk:kvs.all (λ p=>fP.contains p.1)=true)(h:yj.lookup name=some f):
  cZ cl true name args (.ref i) ⟨L,S⟩=(args ⟨L,S⟩).bind λ vs Y=>cl f (.ref i::vs) Y:=by
 unfold cZ;rw[show pR (.ref i) name ⟨L,S⟩=some (.user f)from(dY hi).trans ((dY (ur hf)).trans ((if_pos hk).trans (congrArg (wG vA.user) h)))];rfl
theorem Jk{α:Type}(f:Str->α)(x:Str):∀N:List Str,(N.map λ v=>(v,f v)).any (λ p=>p.1==x)=decide (x∈N):=by
 intro N;induction N with
 |nil=>rfl
 |cons w N ih=>
  simp only[cA,p6,ih];by_cases h:w=x
  ·subst h;simp
  ·have:(w==x)=false:=beq_eq_false_iff_ne.mpr h;simp[this,Ne.symm h]
theorem xY{α:Type}(f:Str->α)(x:Str):∀N:List Str,(N.map λ v=>(v,f v)).lookup x=if x∈N then some (f x)else none:=by
 intro N;induction N with
 |nil=>rfl
 |cons w N ih=>
  rw[cA,List.lookup_cons];by_cases h:x=w
  ·subst h;simp
  ·have:(x==w)=false:=beq_eq_false_iff_ne.mpr h;simp only[this,ih];simp[h]
noncomputable def xZ(n:Nat)(v:Str):List O:=[.dict [] 0,.node n [some (.str v),some (.int 0),some (.ref (n+2))],.list []]
theorem aae(d:Nat)(v:Str)(l)(S:List O)(hk:8<=S.length):aG (d+2) 40 [.str v] ⟨l,S⟩=.ok (.ref (S.length+1)) ⟨l,S++xZ S.length v⟩:=by
 rw[(by kernel_rfl:aG (d+2) 40 [.str v] ⟨l,S⟩=(aG (d+1) 36 [.ref (S.length+1),.str v] ⟨l,S++[.dict [] 0,.node S.length [none,none,none]]⟩).bind λ v τ=>if v=.none then .ok (.ref (S.length+1)) τ else .bad),fZ (L:=L36 (some (.ref (S.length+1))) (some (.str v))) (S₁:=S++[.dict [] 0,.node S.length [none,none,none]]) (by kernel_rfl),af3];have a1:∀fs,(S++[O.dict [] 0,O.node S.length fs])[S.length+1]?=some (.node S.length fs):=λ fs=>jQ S _ 1
 have u1:∀o o',(S++[O.dict [] 0,o]).set (S.length+1) o'=S++[O.dict [] 0,o']:=λ o o'=>vQ S _ 1 o'
 have nw:∀L (S:List O) a b o,St.new ⟨L,S++[a,b]⟩ o=.ok (.ref (S.length+2)) ⟨L,S++[a,b,o]⟩:=λ L S a b o=>by
  rw[fG,aj,aq];rfl
 simp only[B36,ag6,ag7,ag8,akt,aku,aC.bind_ok,(λ L=>(qR (L:=L) (a1 [none,none,none]) (k:=0) (by kernel_rfl) (show 0 < 3 by decide) (by lia)).trans (by rw[u1];rfl):∀L,dz (.ref (S.length+1)) ("node":Str) (.str v) ⟨L,S++[O.dict [] 0,O.node S.length [none,none,none]]⟩=.ok .none ⟨L,S++[O.dict [] 0,O.node S.length [some (.str v),none,none]]⟩),(λ L=>(qR (L:=L) (a1 [some (.str v),none,none]) (k:=1) (by kernel_rfl) (show 1 < 3 by decide) (by lia)).trans (by rw[u1];rfl):∀L,dz (.ref (S.length+1)) ("npredecessors":Str) (.int 0) ⟨L,S++[O.dict [] 0,O.node S.length [some (.str v),none,none]]⟩=.ok .none ⟨L,S++[O.dict [] 0,O.node S.length [some (.str v),some (.int 0),none]]⟩),nw,(λ L=>(qR (L:=L) ((λ fs o=>jQ S _ 1:∀fs o,(S++[O.dict [] 0,O.node S.length fs,o])[S.length+1]?=some (.node S.length fs)) [some (.str v),some (.int 0),none] _) (k:=2) (by kernel_rfl) (show 2 < 3 by decide) (by lia)).trans (by rw[(λ o o' x=>vQ S _ 1 o':∀o o' x,(S++[O.dict [] 0,o,x]).set (S.length+1) o'=S++[O.dict [] 0,o',x])];rfl):∀L,dz (.ref (S.length+1)) ("successors":Str) (.ref (S.length+2)) ⟨L,S++[O.dict [] 0,O.node S.length [some (.str v),some (.int 0),none],.list []]⟩=.ok .none ⟨L,S++xZ S.length v⟩),aQ,Ie];rfl
noncomputable def aeH(S:List O)(g:G)(v:Str):G:={g with N:=g.N++[v],at_:=upd g.at_ v (S.length+1),dd:=upd g.dd v S.length,sl:=upd g.sl v (S.length+2)}
theorem agq(d:Nat)(rd:Option Nat)(po nf:Int):(sX d rd po nf).all (λ p=>fP.contains p.1)=true:=by kernel_rfl
theorem Jl{N:List Str}{v:Str}(h:N.Nodup)(hv:v∉N):(N++[v]).Nodup:=by
 refine cN.mpr ⟨h,by simp,λ a ha b hb q=>?_⟩;rw[aJ.mp hb]at q;exact hv (q▸ha)
theorem fM.newNode{S:List O}{g:G}(h:fM S g){v:Str}(hv:v∉g.N)(hl:g.N.length < 60){ep:Nat}(ed:S[g.d]?=some (.dict (g.N.map λ v=>(v,.ref (g.at_ v))) ep)):
  fM ((S++xZ S.length v).set g.d (g8 (g.N.map λ v=>(v,.ref (g.at_ v))) ep v (.ref (S.length+1)))) (aeH S g v)/\iH S g ((S++xZ S.length v).set g.d (g8 (g.N.map λ v=>(v,.ref (g.at_ v))) ep v (.ref (S.length+1)))) (aeH S g v):=by
 have ne:∀w∈g.N,w≠v:=λ w hw q=>hv (q▸hw)
 have hd:g8 (g.N.map λ v=>(v,.ref (g.at_ v))) ep v (.ref (S.length+1))=.dict ((g.N++[v]).map λ w=>(w,.ref (upd g.at_ v (S.length+1) w))) (ep+1):=by
  delta g8 uw
  rw[Jk,decide_eq_false hv,if_neg cY,aP,m9,dB];congr 2;refine qH λ w hw=>?_
  rw[eH _ _ (ne w hw)]
 obtain⟨epf,ef⟩:=h.fld;have old:∀{b:Nat}{y:O},S[b]?=some y->b≠g.d->((S++xZ S.length v).set g.d (g8 (g.N.map λ v=>(v,.ref (g.at_ v))) ep v (.ref (S.length+1))))[b]?=some y:=λ e hne=>by
  rw[aY (λ q=>hne q.symm)];exact aK e
 have new:∀{b:Nat}{y:O},(S++xZ S.length v)[b]?=some y->b≠g.d->((S++xZ S.length v).set g.d (g8 (g.N.map λ v=>(v,.ref (g.at_ v))) ep v (.ref (S.length+1))))[b]?=some y:=λ e hne=>by
  rw[aY (λ q=>hne q.symm)];exact e
 have hdl:=cT ed;have hsl:∀w∈g.N,g.sl w < S.length:=λ w hw=>cT (h.suc w hw)
 constructor
 ·exact{
   inst:=old h.inst (jF h.inst ed nofun)
   fld:=⟨epf,old ef h.fdd⟩
   dct:=⟨ep+1,(pK _ (aK ed)).trans (congrArg some hd)⟩
   nod:=λ w hw=>by
    show _=some (O.node (upd g.dd v S.length w) [some (.str w),some (.int (g.np w)),some (.ref (upd g.sl v (S.length+2) w))]);rcases aM.mp hw with hw|hw
    ·show(_:List O)[upd g.at_ v (S.length+1) w]?=_;rw[eH _ _ (ne w hw),eH _ _ (ne w hw),eH _ _ (ne w hw)];exact old (h.nod w hw) (jF (h.nod w hw) ed nofun)
    ·rw[aJ.mp hw,((h.off v hv).1)];show(_:List O)[upd g.at_ v (S.length+1) v]?=_;rw[dB,dB,dB];exact new (jQ S (xZ S.length v) 1) (by lia)
   suc:=λ w hw=>by
    show(_:List O)[upd g.sl v (S.length+2) w]?=some (.list ((g.su w).map .str));rcases aM.mp hw with hw|hw
    ·rw[eH _ _ (ne w hw)];exact old (h.suc w hw) (jF (h.suc w hw) ed nofun)
    ·rw[aJ.mp hw,dB,((h.off v hv).2)];exact new (jQ S (xZ S.length v) 2) (by lia)
   nd:=Jl h.nd hv
   inj:=λ w hw u hu q=>by
    replace q:upd g.sl v (S.length+2) w=upd g.sl v (S.length+2) u:=q;rcases aM.mp hw with hw|hw<;>rcases aM.mp hu with hu|hu
    ·rw[eH _ _ (ne w hw),eH _ _ (ne u hu)]at q;exact h.inj w hw u hu q
    ·rw[aJ.mp hu,eH _ _ (ne w hw),dB]at q;have:=hsl w hw;lia
    ·rw[aJ.mp hw,eH _ _ (ne u hu),dB]at q;have:=hsl u hu;lia
    ·rw[aJ.mp hw,aJ.mp hu]
   fdd:=h.fdd
   ge:=⟨h.ge.1,h.ge.2.1,λ w hw=>by
    show 8<=upd g.at_ v (S.length+1) w/\8<=upd g.sl v (S.length+2) w;have:=h.ge.2.1;rcases aM.mp hw with hw|hw
    ·rw[eH _ _ (ne w hw),eH _ _ (ne w hw)];exact h.ge.2.2 w hw
    ·rw[aJ.mp hw,dB,dB];lia⟩
   len:=by show(g.N++[v]).length<=60;rw[aq];show _+1<=60;assumption
   sul:=h.sul
   off:=λ w hw=>h.off w λ q=>hw (cg _ q)
   rdy:=λ r e=>by
    obtain⟨a,b,c,f⟩:=h.rdy r e;refine⟨a,old b (jF b ed nofun),λ w hw=>?_,f⟩;show upd g.sl v (S.length+2) w≠r;rcases aM.mp hw with hw|hw
    ·rw[eH _ _ (ne w hw)];exact c w hw
    ·rw[aJ.mp hw,dB];have:=cT b;lia}
 ·refine⟨λ a o e hm=>old e λ q=>hm (.inr (.inl q)),λ a hm=>?_,by rw[dw,aq];simp,rfl⟩;rcases hm with q|q|⟨w,hw,q⟩|q
  ·exact .inl (.inl q)
  ·exact .inl (.inr (.inl q))
  ·rcases aM.mp hw with hw|hw
   ·refine .inl (.inr (.inr (.inl ⟨w,hw,?_⟩)));rcases q with q|q
    ·exact .inl (q.trans (eH _ _ (ne w hw)))
    ·exact .inr (q.trans (eH _ _ (ne w hw)))
   ·rw[aJ.mp hw]at q;refine .inr ?_;rcases q with q|q
    ·have:=q.trans (dB g.at_ v (S.length+1));lia
    ·have:=q.trans (dB g.sl v (S.length+2));lia
  ·exact .inl (.inr (.inr (.inr q)))
theorem z8(Y:St):zG .IsNot .none .none Y=some false:=rfl
theorem Qe:Tq .none .none=some true:=rfl
theorem nH(n:Nat):Tq (.ref n) .none=some false:=rfl
noncomputable def lK(N:List Str)(v:Str):List Str:=if v∈N then N else N++[v]
theorem oF{N:List Str}{v w:Str}:w∈lK N v↔w∈N\/w=v:=by
 unfold lK;split
 ·exact⟨.inl,λ q=>q.elim id λ q=>by rw[q];assumption⟩
 ·rw[aM,aJ]
structure Same(g g':G):Prop where
 np:g'.np=g.np
 su:g'.su=g.su
 rd:g'.rd=g.rd
 rl:g'.rl=g.rl
 po:g'.po=g.po
 nf:g'.nf=g.nf
section
variable {S:List O}{g:G}(h:fM S g)
include h
theorem fM.attr{L}{x:Str}{v:V}(hx:fP.contains x=true)(hv:(sX g.d g.rd g.po g.nf).lookup x=some v):fu (.ref g.i) x ⟨L,S⟩=.ok v ⟨L,S⟩:=
 let ⟨_,e⟩:=h.fld;aac h.inst e hx hv
theorem fM.a_n2i{L}:fu (.ref g.i) ("_node2info":Str) ⟨L,S⟩=.ok (.ref g.d) ⟨L,S⟩:=h.attr (by kernel_rfl) (by kernel_rfl)
theorem fM.a_rd{L}:fu (.ref g.i) ("_ready_nodes":Str) ⟨L,S⟩=.ok (rdV g.rd) ⟨L,S⟩:=h.attr (by kernel_rfl) (by kernel_rfl)
theorem fM.a_po{L}:fu (.ref g.i) ("_npassedout":Str) ⟨L,S⟩=.ok (.int g.po) ⟨L,S⟩:=h.attr (by kernel_rfl) (by kernel_rfl)
theorem fM.a_nf{L}:fu (.ref g.i) ("_nfinished":Str) ⟨L,S⟩=.ok (.int g.nf) ⟨L,S⟩:=h.attr (by kernel_rfl) (by kernel_rfl)
theorem fM.a_np{L}{v:Str}(hv:v∈g.N):fu (.ref (g.at_ v)) ("npredecessors":Str) ⟨L,S⟩=.ok (.int (g.np v)) ⟨L,S⟩:=Em (h.nod v hv) (k:=1) (by kernel_rfl) rfl
theorem fM.a_node{L}{v:Str}(hv:v∈g.N):fu (.ref (g.at_ v)) ("node":Str) ⟨L,S⟩=.ok (.str v) ⟨L,S⟩:=Em (h.nod v hv) (k:=0) (by kernel_rfl) rfl
theorem fM.a_su{L}{v:Str}(hv:v∈g.N):fu (.ref (g.at_ v)) ("successors":Str) ⟨L,S⟩=.ok (.ref (g.sl v)) ⟨L,S⟩:=Em (h.nod v hv) (k:=2) (by kernel_rfl) rfl
theorem fM.s_np{L}{v:Str}(hv:v∈g.N)(n:Int):dz (.ref (g.at_ v)) ("npredecessors":Str) (.int n) ⟨L,S⟩=.ok .none ⟨L,S.set (g.at_ v) (Wk g v n)⟩:=qR (h.nod v hv) (k:=1) (by kernel_rfl) (show 1 < 3 by decide) (h.ge.2.2 v hv).1
theorem fM.meth{cl:Nat->List V->St->aC V}{args:St->aC (List V)}{name:Str}{f:Nat}{L}(hn:yj.lookup name=some f):cZ cl true name args (.ref g.i) ⟨L,S⟩=(args ⟨L,S⟩).bind λ vs Y=>cl f (.ref g.i::vs) Y:=
 let ⟨_,e⟩:=h.fld;aad h.inst e (agq ..) hn
theorem fM.get{L}(v:Str):gH .get (.ref g.d) [.str v] ⟨L,S⟩=.ok (if v∈g.N then .ref (g.at_ v)else .none) ⟨L,S⟩:=by
 obtain⟨ep,e⟩:=h.dct;rw[aeG e,xY];split<;>rfl
theorem fM.item{L}{v:Str}(hv:v∈g.N):iz (.ref g.d) (.str v) ⟨L,S⟩=some (.ref (g.at_ v)):=by
 obtain⟨ep,e⟩:=h.dct;rw[Eo e,xY,if_pos hv]
theorem aaf(d:Nat)(l){v:Str}(hv:v∈g.N):aG (d+1) 80 [.ref g.i,.str v] ⟨l,S⟩=.ok (.ref (g.at_ v)) ⟨l,S⟩:=by
 rw[fZ (L:=Xl (some (.ref g.i)) (some (.str v)) none) (S₁:=S) (by kernel_rfl),Xm];obtain⟨ep,ed⟩:=h.dct;have gt:=λ L=>h.get (L:=L) v
 rw[if_pos hv]at gt;simp only[B80,ad3,ad4,agY,agZ,ag0,ag1,aC.bind_ok,h.a_n2i,(λ cl live args L=>Jj (cl:=cl) (live:=live) (args:=args) (L:=L) ed),gt,nH,aO,aF,if_false,aQ,eV,jg]
theorem aag(d:Nat)(l){v:Str}(hv:v∉g.N)(hl:g.N.length < 60)(h8:8<=S.length):∃S',aG (d+3) 80 [.ref g.i,.str v] ⟨l,S⟩=.ok (.ref (S.length+1)) ⟨l,S'⟩/\fM S' (aeH S g v)/\iH S g S' (aeH S g v):=by
 rw[fZ (L:=Xl (some (.ref g.i)) (some (.str v)) none) (S₁:=S) (by kernel_rfl),Xm];obtain⟨ep,ed⟩:=h.dct;obtain⟨r1,r2⟩:=h.newNode hv hl ed;refine⟨_,?_,r1,r2⟩;have gt:=λ L=>h.get (L:=L) v
 rw[if_neg hv]at gt;simp only[B80,ad3,ad2,RL,ad4,agY,agZ,ag0,ag1,aC.bind_ok,h.a_n2i,(λ cl live args L=>Jj (cl:=cl) (live:=live) (args:=args) (L:=L) ed),gt,Qe,aO,if_true,(λ L=>aae d v L S h8),(λ L=>(h.push (xZ S.length v)).a_n2i (L:=L)),(λ L=>qT (L:=L) (aK (J:=xZ S.length v) ed) (by rw[au];exact aV (by lia)) h.ge.2.1 v (.ref (S.length+1))),aQ,eV,jg]
theorem ahu(d:Nat)(l)(v:Str)(hl:g.N.length < 60)(h8:8<=S.length):∃S' g',aG (d+3) 80 [.ref g.i,.str v] ⟨l,S⟩=.ok (.ref (g'.at_ v)) ⟨l,S'⟩/\fM S' g'/\iH S g S' g'/\g'.N=lK g.N v/\Same g g':=by
 unfold lK;by_cases hv:v∈g.N
 ·rw[if_pos hv];exact⟨S,g,aaf h (d+2) l hv,h,.refl S g,rfl,rfl,rfl,rfl,rfl,rfl,rfl⟩
 ·rw[if_neg hv];obtain⟨S',e1,e2,e3⟩:=aag h d l hv hl h8;refine⟨S',aeH S g v,?_,e2,e3,rfl,rfl,rfl,rfl,rfl,rfl,rfl⟩;rw[e1];show _=aC.ok (V.ref (upd g.at_ v (S.length+1) v)) _;rw[dB]
end
set_option tactic.hygienic true in
theorem ajA{α:Type}(f:Str->α)(v:Str):upd f v (f v)=f:=funext λ w=>by
 unfold upd;split
 ·rename_i h;rw[h]
 ·rfl
theorem XD{L}{S:List O}{n:Nat}{xs:List V}(e:S[n]?=some (.tup xs))(hs:small xs.length=true):zH [.ref n] ⟨L,S⟩=.ok (.int xs.length) ⟨L,S⟩:=by
 exact(Nf (f:=O.seq?) e rfl).trans (if_pos hs)
theorem aeI{ok:St->Bool}{body:V->St->aC Fl}{Y:St}(h:ok Y=true):qJ ok body [] Y=.ok .next Y:=if_pos h
structure aeJ(S:List O)(g:G)(S':List O)(g':G)(N:List Str)(np:Str->Int)(su:Str->List Str):Prop where
 rep:fM S' g'
 step:iH S g S' g'
 N:g'.N=N
 np:g'.np=np
 su:g'.su=su
 rd:g'.rd=g.rd
 po:g'.po=g.po
 nf:g'.nf=g.nf
theorem agr{g:G}(v:Str)(n:Int):∀x,qQ {g with np:=upd g.np v n} x->qQ g x:=λ _ h=>h
theorem oG{S S':List O}{g g':G}{a:Nat}(st:iH S g S' g')(h:¬ qQ g a)(hl:a < S.length):¬ qQ g' a:=λ q=>by
 rcases st.grow a q with q|q
 ·exact h q
 ·lia
theorem S8{S:List O}{g:G}(h:fM S g)(d:Nat)(l)(x:Str)(ys:List V)(hrd:g.rd=none)(hl:g.N.length < 60)(h8:8<=S.length)(hys:ys=[]\/∃y,ys=[y]):
  ∃S' g' r,aG (d+4) 87 (.ref g.i::.str x::ys) ⟨l,S⟩=sV l (aA (Xn (aG (d+3)) ⟨zu (some (.ref g.i)) (some (.str x)) (some (.ref S.length)) (some r) none none,S'⟩) λ Y=>.ok .next Y)/\aeJ S g S' g' (lK g.N x) (upd g.np x (g.np x+ys.length)) g.su/\S'[S.length]?=some (.tup ys)/\¬ qQ g' S.length:=by
 have e0:aG (d+4) 87 (.ref g.i::.str x::ys) ⟨l,S⟩=sV l (bY (gR (aG (d+3)) 60) (zU 87) (Dl 87) ⟨zu (some (.ref g.i)) (some (.str x)) (some (.ref S.length)) none none none,S++[.tup ys]⟩):=by
  rcases hys with rfl|⟨y,rfl⟩
  ·exact fZ (by kernel_rfl)
  ·exact fZ (by kernel_rfl)
 have hs:small ys.length=true:=by clear e0;rcases hys with rfl|⟨y,rfl⟩<;>rfl
 rw[e0,af5];have h0:=h.push [.tup ys];obtain⟨S1,g1,n1,r1,st1,N1,sm1⟩:=ahu h0 d (zu (some (.ref g.i)) (some (.str x)) (some (.ref S.length)) none none none) x hl (by simp;exact iQ (by assumption));have hx:x∈g1.N:=by rw[N1];exact oF.mpr (.inr rfl)
 have hnm:¬ qQ g S.length:=λ q=>by
  have lt:∀{a:Nat},(∃o,S[a]?=some o)->a < S.length:=λ⟨o,e⟩=>cT e
  rcases q with q|q|⟨v,hv,q|q⟩|q
  ·have:=lt (h.fld.imp' (λ _=>_) λ _ e=>e);lia
  ·have:=lt (h.dct.imp' (λ _=>_) λ _ e=>e);lia
  ·have:=cT (h.nod v hv);lia
  ·have:=cT (h.suc v hv);lia
  ·have:=cT (h.rdy _ q).2.1;lia
 have et:S1[S.length]?=some (.tup ys):=st1.keep _ _ nZ hnm;have hnm1:¬ qQ g1 S.length:=oG st1 hnm (by simp);have ard:=λ L=>h0.a_rd (L:=L)
 rw[hrd,rdV]at ard;refine⟨S1.set (g1.at_ x) (Wk g1 x (g1.np x+ys.length)),{g1 with np:=upd g1.np x (g1.np x+ys.length)},.ref (g1.at_ x),?_,⟨(r1.setNp hx (g1.np x+ys.length)),?_,N1,?_,sm1.su,sm1.rd,sm1.po,sm1.nf⟩,?_,hnm1⟩
 ·simp only[B87,ahe,ahf,ahg,ag2,ag3,adT,aky,akz,aC.bind_ok,ard,z8,aO,aF,if_false,aQ,(λ args L=>h0.meth (cl:=aG (d+3)) (args:=args) (name:=("_get_nodeinfo":Str)) (f:=80) (L:=L) (by kernel_rfl)),n1,(λ L=>r1.a_np (L:=L) hx),(λ L=>XD (L:=L) et hs),Ca,(λ L=>r1.s_np (L:=L) hx (g1.np x+ys.length))]
 ·exact((iH.push S [.tup ys] g).trans st1).trans (iH.set _ (.inr (.inr (.inl ⟨x,hx,.inl rfl⟩))) (agr _ _) rfl)
 ·show upd g1.np x (g1.np x+ys.length)=_;rw[sm1.np]
 ·rw[aY (λ q=>hnm1 (by rw[<-q];exact .inr (.inr (.inl ⟨x,hx,.inl rfl⟩))))];exact et
theorem add1{S:List O}{g:G}(h:fM S g)(d:Nat)(l)(x:Str)(hrd:g.rd=none)(hl:g.N.length < 60)(h8:8<=S.length):
  ∃S' g',aG (d+4) 87 [.ref g.i,.str x] ⟨l,S⟩=.ok .none ⟨l,S'⟩/\aeJ S g S' g' (lK g.N x) g.np g.su:=by
 obtain⟨S',g',r,e1,ad,et,-⟩:=S8 h d l x [] hrd hl h8 (.inl rfl);rw[show g.np x+(([]:List V).length:Nat)=g.np x from Int.add_zero _,ajA]at ad;refine⟨S',g',?_,ad⟩;rw[e1];simp only[Xn,adT,aC.bind_ok,lV,(λ L=>nD (L:=L) et rfl),aeI ((λ L L'=>jZ (L:=L) (L':=L') et et) _ _)];rfl
theorem add2{S:List O}{g:G}(h:fM S g)(d:Nat)(l)(x y:Str)(hrd:g.rd=none)(hl:g.N.length < 59)(h8:8<=S.length)(hsu:(g.su y).length < 1000):
  ∃S' g',aG (d+4) 87 [.ref g.i,.str x,.str y] ⟨l,S⟩=.ok .none ⟨l,S'⟩/\aeJ S g S' g' (lK (lK g.N x) y) (upd g.np x (g.np x+1)) (upd g.su y (g.su y++[x])):=by
 obtain⟨S1,g1,r,e1,ad,et,hnm⟩:=S8 h d l x [.str y] hrd (by lia) h8 (.inr ⟨_,rfl⟩);have hl1:g1.N.length < 60:=by
  rw[ad.N];unfold lK;split
  ·lia
  ·rw[aq];show _+1 < 60;lia
 obtain⟨S2,g2,n2,r2,st2,N2,sm2⟩:=ahu ad.rep d (zu (some (.ref g.i)) (some (.str x)) (some (.ref S.length)) (some r) (some (.str y)) none) y hl1 (bT h8 ad.step.len);have hi:g1.i=g.i:=ad.step.same;rw[hi]at n2;have hy:y∈g2.N:=by rw[N2];exact oF.mpr (.inr rfl)
 have hsu2:g2.su y=g.su y:=by rw[sm2.su,ad.su]
 have esu:=r2.suc y hy;rw[hsu2]at esu;have me:=λ args L=>by
  have:=ad.rep.meth (cl:=aG (d+3)) (args:=args) (name:=("_get_nodeinfo":Str)) (f:=80) (L:=L) (by kernel_rfl);rw[hi]at this;exact this
 refine⟨_,_,?_,⟨(r2.setSu hy (g.su y++[x]) (by rw[aq];show _+1<=1000;assumption)),?_,?_,?_,?_,?_,?_,?_⟩⟩
 ·rw[e1];have body:Iv (aG (d+3)) ⟨zu (some (.ref g.i)) (some (.str x)) (some (.ref S.length)) (some r) (some (.str y)) none,S1⟩=.ok .next ⟨zu (some (.ref g.i)) (some (.str x)) (some (.ref S.length)) (some r) (some (.str y)) (some (.ref (g2.at_ y))),S2.set (g2.sl y) (.list ((g.su y++[x]).map .str))⟩:=by
   simp only[Iv,RM,RN,ag2,ag3,akA,akC,akD,aC.bind_ok,me,n2,aQ,(λ L=>r2.a_su (L:=L) hy),(λ cl live args L=>jN (cl:=cl) (live:=live) (args:=args) (L:=L) esu),(λ L=>nC (L:=L) esu (by rw[au];exact aV (by lia)) (r2.ge.2.2 y hy).2 (.str x)),aP,cA,gO]
  simp only[Xn,adT,aC.bind_ok,lV,(λ L=>nD (L:=L) et rfl),(I7 (body:=λ v Y=>Iv (aG (d+3)) (aX ("pred":Str) v Y)) (v:=.str y) (Y:=⟨zu (some (.ref g.i)) (some (.str x)) (some (.ref S.length)) (some r) none none,S1⟩) ((λ L L'=>jZ (L:=L) (L':=L') et et) (zu (some (.ref g.i)) (some (.str x)) (some (.ref S.length)) (some r) none none) _) ((congrArg (Iv (aG (d+3))) (akB ..)).trans body) ((λ L L'=>jZ (L:=L) (L':=L') et (by rw[aY (λ q=>(oG st2 hnm (cT et)) (by rw[<-q];exact .inr (.inr (.inl ⟨y,hy,.inr rfl⟩))))];exact(st2.keep _ _ et hnm):(S2.set (g2.sl y) (.list ((g.su y++[x]).map .str)))[S.length]?=some (.tup [.str y]))) _ _))];rfl
 ·exact(ad.step.trans st2).trans (iH.set _ (.inr (.inr (.inl ⟨y,hy,.inr rfl⟩))) (λ _ h=>h) rfl)
 ·show g2.N=_;rw[N2,ad.N]
 ·show g2.np=_;rw[sm2.np,ad.np];rfl
 ·show upd g2.su y _=_;rw[sm2.su,ad.su]
 ·show g2.rd=_;rw[sm2.rd,ad.rd]
 ·show g2.po=_;rw[sm2.po,ad.po]
 ·show g2.nf=_;rw[sm2.nf,ad.nf]
noncomputable def g0(n:Nat):G:={i:=n+1,fd:=n,d:=n+2,N:=[],at_:=λ _=>0,dd:=λ _=>0,sl:=λ _=>0,np:=λ _=>0,su:=λ _=>[],rd:=none,rl:=[],po:=0,nf:=0}
theorem aah(d:Nat)(l)(S:List O)(hk:8<=S.length):∃J,aG (d+2) 137 [] ⟨l,S⟩=.ok (.ref (S.length+1)) ⟨l,S++J⟩/\fM (S++J) (g0 S.length):=by
 rw[(by kernel_rfl:aG (d+2) 137 [] ⟨l,S⟩=(aG (d+1) 73 [.ref (S.length+1)] ⟨l,S++[.dict [] 0,.inst S.length]⟩).bind λ v τ=>if v=.none then .ok (.ref (S.length+1)) τ else .bad),fZ (L:=RJ (some (.ref (S.length+1))) (some .none) none none) (S₁:=S++[.dict [] 0,.inst S.length]) (by kernel_rfl),af4];have i1:∀o:O,(S++[o,.inst S.length,.dict [] 0])[S.length+1]?=some (.inst S.length):=λ o=>jQ S _ 1
 have f1:∀o:O,(S++[o,.inst S.length,.dict [] 0])[S.length]?=some o:=λ o=>jQ S _ 0
 have u1:∀o o':O,(S++[o,.inst S.length,.dict [] 0]).set S.length o'=S++[o',.inst S.length,.dict [] 0]:=λ o o'=>vQ S _ 0 o'
 have nw:∀L,St.new ⟨L,S++[.dict [] 0,.inst S.length]⟩ (.dict [] 0)=.ok (.ref (S.length+2)) ⟨L,S++[.dict [] 0,.inst S.length,.dict [] 0]⟩:=λ L=>by
  rw[fG,aj,aq];rfl
 have sa:=λ L kvs ep x v (hx:fP.contains x=true) (hl:kvs.length < 100)=>(Cm (L:=L) (i1 (.dict kvs ep)) (f1 _) (v:=v) hx hl hk).trans (by rw[u1])
 refine⟨[.dict (sX (S.length+2) none 0 0) 4,.inst S.length,.dict [] 0],?_,?_⟩
 ·simp only[B73,ag9,aha,ahb,ahc,ahd,akv,akx,aC.bind_ok,nw,(λ L=>(sa L [] 0 _ _ (by kernel_rfl) (ji rfl)).trans rfl:∀L,dz (.ref (S.length+1)) ("_node2info":Str) (.ref (S.length+2)) ⟨L,S++[.dict [] 0,.inst S.length,.dict [] 0]⟩=.ok .none ⟨L,S++[.dict [("_node2info",.ref (S.length+2))] 1,.inst S.length,.dict [] 0]⟩),(λ L=>(sa L _ 1 _ _ (by kernel_rfl) (ji rfl)).trans (by kernel_rfl):∀L,dz (.ref (S.length+1)) ("_ready_nodes":Str) .none ⟨L,S++[.dict [("_node2info",.ref (S.length+2))] 1,.inst S.length,.dict [] 0]⟩=.ok .none ⟨L,S++[.dict [("_node2info",.ref (S.length+2)),("_ready_nodes",.none)] 2,.inst S.length,.dict [] 0]⟩),(λ L=>(sa L _ 2 _ _ (by kernel_rfl) (ji rfl)).trans (by kernel_rfl):∀L,dz (.ref (S.length+1)) ("_npassedout":Str) (.int 0) ⟨L,S++[.dict [("_node2info",.ref (S.length+2)),("_ready_nodes",.none)] 2,.inst S.length,.dict [] 0]⟩=.ok .none ⟨L,S++[.dict [("_node2info",.ref (S.length+2)),("_ready_nodes",.none),("_npassedout",.int 0)] 3,.inst S.length,.dict [] 0]⟩),(λ L=>(sa L _ 3 _ _ (by kernel_rfl) (ji rfl)).trans (by kernel_rfl):∀L,dz (.ref (S.length+1)) ("_nfinished":Str) (.int 0) ⟨L,S++[.dict [("_node2info",.ref (S.length+2)),("_ready_nodes",.none),("_npassedout",.int 0)] 3,.inst S.length,.dict [] 0]⟩=.ok .none ⟨L,S++[.dict (sX (S.length+2) none 0 0) 4,.inst S.length,.dict [] 0]⟩),aQ,z8,aO,aF,if_false,Ie];rfl
 ·exact{
   inst:=i1 _
   fld:=⟨4,f1 _⟩
   dct:=⟨0,jQ S _ 2⟩
   nod:=nofun
   suc:=nofun
   nd:=oR
   inj:=nofun
   fdd:=by show S.length≠S.length+2;simp
   ge:=⟨hk,by show 8<=S.length+2;exact dh _ (by assumption),nofun⟩
   len:=dR _
   sul:=λ _=>dR _
   off:=λ _ _=>⟨rfl,rfl⟩
   rdy:=nofun}
section
variable {S:List O}{g:G}(h:fM S g) {r:Nat}(hr:g.rd=some r)
include h hr
theorem fM.a_rd'{L}:fu (.ref g.i) ("_ready_nodes":Str) ⟨L,S⟩=.ok (.ref r) ⟨L,S⟩:=by
 have:=h.a_rd (L:=L);rw[hr]at this;exact this
theorem FJ(d:Nat)(l):aG (d+1) 106 [.ref g.i] ⟨l,S⟩=.ok (.bool (decide (g.nf < g.po)||!g.rl.isEmpty)) ⟨l,S⟩:=by
 rw[fZ (L:=adU (some (.ref g.i))) (S₁:=S) (by kernel_rfl),aed];have hl:=(h.rdy r hr).2.1;have hb:∀cl L,gq cl .bool [.ref r] ⟨L,S⟩=.ok (.bool (!g.rl.isEmpty)) ⟨L,S⟩:=λ cl L=>by
  refine(gD (gm hl)).trans ?_;show(if small (g.rl.map V.str).length=true then aC.ok (V.bool (!(g.rl.map V.str).isEmpty)) (⟨L,S⟩:St)else .bad)=_;rw[au,List.isEmpty_map,if_pos (aV (by have:=(h.rdy r hr).2.2.2;lia))]
 induction hd:decide (g.nf < g.po)with
 |true=>simp only[ajo,Vw,Vx,adV,aC.bind_ok,h.a_rd' hr,nH,aO,aF,if_false,aQ,h.a_nf,h.a_po,lt_int,hd,dW,if_true,eV,jg,Bool.true_or]
 |false=>simp only[ajo,Vw,Vx,adV,aC.bind_ok,h.a_rd' hr,nH,aO,aF,if_false,aQ,h.a_nf,h.a_po,lt_int,hd,dW,if_false,hb,eV,jg,Bool.false_or]
end
theorem yc{S:List O}{g:G}(h:fM S g){L}{x:Str}{v:V}{rd:Option Nat}{po nf:Int}(hx:fP.contains x=true)(he:∀ep,g8 (sX g.d g.rd g.po g.nf) ep x v=.dict (sX g.d rd po nf) ep):∃ep,dz (.ref g.i) x v ⟨L,S⟩=.ok .none ⟨L,S.set g.fd (.dict (sX g.d rd po nf) ep)⟩:=by
 obtain⟨ep,e⟩:=h.fld;refine⟨ep,(Cm h.inst e hx (by simp[sX]) h.ge.1).trans ?_⟩;rw[he]
theorem ajB(d:Nat)(rd:Option Nat)(po nf:Int)(v:Int)(ep:Nat):g8 (sX d rd po nf) ep ("_npassedout":Str) (.int v)=.dict (sX d rd v nf) ep:=by kernel_rfl
theorem ajC(d:Nat)(rd:Option Nat)(po nf:Int)(v:Int)(ep:Nat):g8 (sX d rd po nf) ep ("_nfinished":Str) (.int v)=.dict (sX d rd po v) ep:=by kernel_rfl
theorem ajD(d:Nat)(rd:Option Nat)(po nf:Int)(r:Nat)(ep:Nat):g8 (sX d rd po nf) ep ("_ready_nodes":Str) (.ref r)=.dict (sX d (some r) po nf) ep:=by kernel_rfl
theorem aeK{L}{S:List O}{n:Nat}{xs:List V}(e:S[n]?=some (.list xs))(hs:small xs.length=true)(hk:8<=n):gH .clear (.ref n) [] ⟨L,S⟩=.ok .none ⟨L,S.set n (.list [])⟩:=(gD e).trans ((if_pos hs).trans (if_pos hk))
theorem Wl{cl}{L}{S:List O}{n:Nat}{xs:List V}(e:S[n]?=some (.list xs))(hs:small xs.length=true):gq cl .tuple [.ref n] ⟨L,S⟩=.ok (.ref S.length) ⟨L,S++[.tup xs]⟩:=by
 exact(gD e).trans (if_pos hs)
theorem fX{S:List O}{g:G}(h:fM S g):¬ qQ g S.length:=λ q=>by
 have lt:∀{a:Nat} {o},S[a]?=some o->a < S.length:=cT;rcases q with q|q|⟨v,hv,q|q⟩|q
 ·obtain⟨ep,e⟩:=h.fld;have:=lt e;lia
 ·obtain⟨ep,e⟩:=h.dct;have:=lt e;lia
 ·have:=lt (h.nod v hv);lia
 ·have:=lt (h.suc v hv);lia
 ·have:=lt (h.rdy _ q).2.1;lia
noncomputable def qi(np:Str->Int)(done:List Str):Str->Int:=λ v=>if v∈done then -1 else np v
theorem Jm(np:Str->Int)(done:List Str)(v:Str):upd (qi np done) v (-1)=qi np (done++[v]):=funext λ w=>by
 delta upd qi
 by_cases h:w=v
 ·rw[if_pos h,if_pos (by rw[h];simp)]
 ·rw[if_neg h];by_cases h2:w∈done
  ·rw[if_pos h2,if_pos (cg _ h2)]
  ·rw[if_neg h2,if_neg (λ q=>(aM.mp q).elim h2 λ q=>h (aJ.mp q))]
inductive aeL(S0:List O)(g:G)(m:Nat)(rest:List Str)(Y:St):Prop
 |mk (done:List Str) (S':List O) (o:Option V) (hd:done++rest=g.rl) (e:Y=⟨Fq (some (.ref g.i)) (some (.ref m)) (some (.ref g.d)) o,S'⟩) (h:fM S' {g with np:=qi g.np done}) (st:iH S0 g S' {g with np:=qi g.np done})
inductive ajE(S:List O)(g:G)(l:List (Str×Option V))(r:aC V):Prop
 |mk (S':List O) (t:Nat) (e:r=.ok (.ref t) ⟨l,S'⟩) (h:fM S' {g with np:=qi g.np g.rl,rl:=[],po:=g.po+g.rl.length}) (st:iH S g S' {g with np:=qi g.np g.rl,rl:=[],po:=g.po+g.rl.length}) (et:S'[t]?=some (.tup (g.rl.map .str))) (hl:S.length<=t) (hm:¬ qQ g t)
theorem Wm{S0 S':List O}{g:G}{m:Nat}{v:Str}{rest done:List Str}{o:Option V}{cl}(hN:∀v∈g.rl,v∈g.N)(hd:done++v::rest=g.rl)(r1:fM S' {g with np:=qi g.np done})(st:iH S0 g S' {g with np:=qi g.np done}):
  aes (λ v Y=>Ph cl (aX ("node":Str) v Y)) (aeL S0 g m rest) (.str v) ⟨Fq (some (.ref g.i)) (some (.ref m)) (some (.ref g.d)) o,S'⟩:=by
 have hv:v∈g.N:=hN v (by rw[<-hd];exact iu _ (.head _));have r2:=r1.setNp hv (-1);have st2:iH S' {g with np:=qi g.np done} (S'.set (g.at_ v) (Wk g v (-1))) {g with np:=upd (qi g.np done) v (-1)}:=iH.set _ (.inr (.inr (.inl ⟨v,hv,.inl rfl⟩))) (λ _ h=>h) rfl;replace st2:=st.trans st2;rw[Jm]at st2;rw[Jm]at r2;refine⟨.next,⟨Fq (some (.ref g.i)) (some (.ref m)) (some (.ref g.d)) (some (.str v)),S'.set (g.at_ v) (Wk g v (-1))⟩,.inl rfl,?_,⟨done++[v],_,some (.str v),by rw[<-hd,aj];rfl,rfl,r2,st2⟩⟩;simp only[akL];simp only[Ph,RQ,akI,akK,aC.bind_ok,(λ L=>r1.item (L:=L) hv),dX,(λ L=>r1.s_np (L:=L) hv (-1)),aQ];rfl
theorem Wn{S:List O}{g:G}(h:fM S g){r:Nat}(hr:g.rd=some r)(hN:∀v∈g.rl,v∈g.N)(d:Nat)(l):ajE S g l (aG (d+1) 99 [.ref g.i] ⟨l,S⟩):=by
 rw[fZ (L:=Fq (some (.ref g.i)) none none none) (S₁:=S) (by kernel_rfl),af7];refine uq λ Zz toG=>?_
 have sz:small (g.rl.map V.str).length=true:=by rw[au];exact aV (bT ((h.rdy r hr).2.2.2) (by decide))
 have hnm:=fX h;have h0:=h.push [.tup (g.rl.map .str)];have et:(S++[O.tup (g.rl.map V.str)])[S.length]?=some (.tup (g.rl.map .str)):=nZ;obtain⟨Y',f1,done,S',o,hd,rfl,r1,st1⟩:=mq (f:=V.str) (ok:=cW (.ref S.length) ⟨Fq (some (.ref g.i)) (some (.ref S.length)) (some (.ref g.d)) none,S++[.tup (g.rl.map .str)]⟩) (body:=λ v Y=>Ph (aG d) (aX ("node":Str) v Y))
  (aeL (S++[.tup (g.rl.map .str)]) g S.length) (λ rest Y ⟨_,_,_,_,e,_,st⟩=>by rw[e];exact jZ et (st.keep _ _ et hnm))
  (λ v rest Y ⟨_,_,_,hd,e,r1,st⟩=>by rw[e];exact Wm hN hd r1 st) g.rl ⟨Fq (some (.ref g.i)) (some (.ref S.length)) (some (.ref g.d)) none,S++[.tup (g.rl.map .str)]⟩
  ⟨[],_,none,rfl,rfl,h0,.refl _ g⟩
 rw[aW]at hd;subst hd;have hr':({g with np:=qi g.np g.rl}:G).rd=some r:=hr;have r2:=r1.setRl hr' [] (dR _);have st2:iH S' {g with np:=qi g.np g.rl} (S'.set r (.list [])) {g with np:=qi g.np g.rl,rl:=[]}:=iH.set _ (.inr (.inr (.inr hr))) (λ _ h=>h) rfl;obtain⟨ep,sa⟩:=yc r2 (L:=Fq (some (.ref g.i)) (some (.ref S.length)) (some (.ref g.d)) o) (x:=("_npassedout":Str)) (v:=.int (g.po+g.rl.length)) (rd:=g.rd) (po:=g.po+g.rl.length) (nf:=g.nf) (by kernel_rfl) (λ ep=>ajB ..);have st3:iH (S'.set r (.list [])) {g with np:=qi g.np g.rl,rl:=[]} ((S'.set r (.list [])).set g.fd (.dict (sX g.d g.rd (g.po+g.rl.length) g.nf) ep)) {g with np:=qi g.np g.rl,rl:=[],po:=g.po+g.rl.length}:=iH.set _ (.inl rfl) (λ _ h=>h) rfl;have e2:(S'.set r (.list []))[S.length]?=some (.tup (g.rl.map .str)):=st2.keep _ _ (st1.keep _ _ et hnm) hnm;refine toG ⟨_,S.length,?_,(r2.setFld g.rd [] (g.po+g.rl.length) g.nf ep (λ r' e=>r2.rdy r' e)),((((iH.push S [.tup (g.rl.map .str)] g).trans st1).trans st2).trans st3),(st3.keep _ _ e2 hnm),bV _,hnm⟩;have el:=r1.rdy r hr';have mc:=λ live args L=>V8 (cl:=aG d) (live:=live) (args:=args) (L:=L) el.2.1
 have ce:=λ L=>aeK (L:=L) el.2.1 sz el.1
 have apo:∀L,fu (.ref g.i) ("_npassedout":Str) ⟨L,S'.set r (.list [])⟩=.ok (.int g.po) ⟨L,S'.set r (.list [])⟩:=λ L=>r2.a_po (L:=L)
 have lt:=λ L=>XD (L:=L) e2 sz
 rw[au]at lt;have sa':dz (.ref g.i) ("_npassedout":Str) (.int (g.po+(g.rl.length:Nat))) ⟨Fq (some (.ref g.i)) (some (.ref S.length)) (some (.ref g.d)) o,S'.set r (.list [])⟩=_:=sa;have q3:aec (aG d) ⟨Fq (some (.ref g.i)) (some (.ref S.length)) (some (.ref g.d)) none,S++[.tup (g.rl.map .str)]⟩=.ok .next ⟨Fq (some (.ref g.i)) (some (.ref S.length)) (some (.ref g.d)) o,S'⟩:=by
  simp only[aec,ag5,aC.bind_ok,lV,(λ L=>nD (L:=L) et sz),f1];rfl
 simp only[B99,ahi,ahj,ahk,ag4,akH,akJ,aC.bind_ok,h.a_rd' hr,nH,aO,aF,if_false,aQ,(λ L=>Wl (cl:=aG d) (L:=L) ((h.rdy r hr).2.1) sz),h0.a_n2i,q3];simp only[ahl,ahm,ahn,ag4,ag5,aC.bind_ok,((λ L=>r1.a_rd' hr' (L:=L))),mc,ce,apo,lt,(λ Y=>Ca ..:∀Y,sY .Add (.int g.po) (.int (g.rl.length:Nat)) Y=.ok (.int (g.po+(g.rl.length:Nat))) Y),sa',aQ,eV,jg]
noncomputable def oV(p:(Str->Int)×List Str)(s:Str):(Str->Int)×List Str:=(upd p.1 s (p.1 s - 1),if p.1 s - 1=0 then p.2++[s]else p.2)
noncomputable def S9(g:G)(v:Str):G:={g with np:=((g.su v).foldl oV (upd g.np v (-2),g.rl)).1,rl:=((g.su v).foldl oV (upd g.np v (-2),g.rl)).2,nf:=g.nf+1}
theorem Tc(i j:Int)(Y:St):sY .Sub (.int i) (.int j) Y=.ok (.int (i - j)) Y:=rfl
theorem Qf(i:Int)(Y:St):FN (.int i) (.int 0) Y=some (decide (i=0)):=by
 rw[eq_int];by_cases h:i=0
 ·rw[decide_eq_true h,h];rfl
 ·rw[decide_eq_false h,beq_eq_false_iff_ne.mpr h]
theorem aai{S:List O}{g:G}(h:fM S g){r:Nat}(hr:g.rd=some r){s:Str}(hs:s∈g.N)(hl:g.rl.length < 1000){cl}{o1 o3 o4 o5 o7:Option V}:
  ∃S',mR cl ⟨jc (some (.ref g.i)) o1 (some (.ref g.d)) o3 o4 o5 (some (.str s)) o7,S⟩=.ok .next ⟨jc (some (.ref g.i)) o1 (some (.ref g.d)) o3 o4 o5 (some (.str s)) (some (.ref (g.at_ s))),S'⟩/\fM S' {g with np:=(oV (g.np,g.rl) s).1,rl:=(oV (g.np,g.rl) s).2}/\iH S g S' {g with np:=(oV (g.np,g.rl) s).1,rl:=(oV (g.np,g.rl) s).2}:=by
 have it:=λ L=>h.item (L:=L) hs
 have anp:=λ L=>h.a_np (L:=L) hs
 have snp:=λ L=>h.s_np (L:=L) hs (g.np s - 1)
 have r1:=h.setNp hs (g.np s - 1);have st1:iH S g (S.set (g.at_ s) (Wk g s (g.np s - 1))) {g with np:=upd g.np s (g.np s - 1)}:=iH.set _ (.inr (.inr (.inl ⟨s,hs,.inl rfl⟩))) (λ _ h=>h) rfl;have anp2:∀L,fu (.ref (g.at_ s)) ("npredecessors":Str) ⟨L,S.set (g.at_ s) (Wk g s (g.np s - 1))⟩=.ok (.int (g.np s - 1)) ⟨L,S.set (g.at_ s) (Wk g s (g.np s - 1))⟩:=λ L=>by
  have:=r1.a_np (L:=L) hs;rw[show({g with np:=upd g.np s (g.np s - 1)}:G).np s=g.np s - 1 from dB ..]at this;exact this
 dsimp only[oV];by_cases hz:g.np s - 1=0
 ·have d:=decide_eq_true hz;have hr':({g with np:=upd g.np s (g.np s - 1)}:G).rd=some r:=hr;have el:=r1.rdy r hr';have ma:=λ live args L=>jN (cl:=cl) (live:=live) (args:=args) (L:=L) el.2.1
  rw[if_pos hz];refine⟨_,?_,(r1.setRl hr' (g.rl++[s]) (by rw[aq];show _+1<=1000;assumption)),st1.trans (iH.set _ (.inr (.inr (.inr hr))) (λ _ h=>h) rfl)⟩;simp only[mR,vX,vY,vZ,zx,wU,O9,Vu,adX,adY,adZ,aC.bind_ok,it,dX,anp,Tc,snp,aQ,anp2,Qf,d,aO,if_true,(λ L=>r1.a_rd' hr' (L:=L)),ma,(λ L=>nC (L:=L) el.2.1 (by rw[au];exact aV (by show g.rl.length<=_;lia)) el.1 (.str s)),aP,cA,gO]
 ·have d:=decide_eq_false hz;rw[if_neg hz];refine⟨_,?_,r1,st1⟩;simp only[mR,vX,vY,vZ,O9,Vu,adX,adY,adZ,aC.bind_ok,it,dX,anp,Tc,snp,aQ,anp2,Qf,d,aO,aF,if_false]
theorem aaj(p:(Str->Int)×List Str)(s:Str):(oV p s).2.length<=p.2.length+1:=by
 unfold oV;dsimp only;split
 ·simp
 ·simp
inductive aeM(S1:List O)(g:G)(m:Nat)(v:Str)(rest:List Str)(Y:St):Prop
 |mk (p:(Str->Int)×List Str) (S':List O) (o6 o7:Option V) (hp:rest.foldl oV p=(g.su v).foldl oV (upd g.np v (-2),g.rl)) (e:Y=⟨jc (some (.ref g.i)) (some (.ref m)) (some (.ref g.d)) (some (.str v)) (some (.ref (g.at_ v))) (some (.int (-1))) o6 o7,S'⟩)
  (h:fM S' {g with np:=p.1,rl:=p.2}) (st:iH S1 {g with np:=upd g.np v (-2)} S' {g with np:=p.1,rl:=p.2}) (hl:p.2.length+rest.length<=1000) (hm:∀s∈rest,s∈g.N) (es:S'[g.sl v]?=some (.list ((g.su v).map .str)))
inductive akZ(S:List O)(g:G)(v:Str)(l:List (Str×Option V))(r:aC V):Prop
 |mk (S':List O) (e:r=.ok .none ⟨l,S'⟩) (h:fM S' (S9 g v)) (st:iH S g S' (S9 g v))
set_option tactic.hygienic true in
theorem aak{S1:List O}{g:G}{m:Nat}{v s:Str}{rest:List Str}{Y:St}{cl}{r:Nat}(hr:g.rd=some r)(hv:v∈g.N)(hI:aeM S1 g m v (s::rest) Y):aes (λ w Y=>mR cl (aX ("successor":Str) w Y)) (aeM S1 g m v rest) (.str s) Y:=by
 obtain⟨p,S',o6,o7,hp,rfl,rr,st,hl,hm,es⟩:=hI;simp only[aZ]at hl;obtain⟨S'',b1,b2,b3⟩:=aai rr (g:={g with np:=p.1,rl:=p.2}) hr (hm s bw) (m8 (Nat.lt_add_of_pos_right (Nat.succ_pos _)) hl) (cl:=cl) (o1:=some (.ref m)) (o3:=some (.str v)) (o4:=some (.ref (g.at_ v))) (o5:=some (.int (-1))) (o7:=o7);have:=aaj p s;exact⟨.next,_,.inl rfl,(congrArg (mR cl) (ajc ..)).trans b1,oV p s,S'',_,_,hp,rfl,b2,st.trans b3,by clear rr st b1 b2 b3 hp es hm;lia,λ x hx=>hm x (bM _ hx),b2.suc v hv⟩
theorem aal{S:List O}{g:G}(h:fM S g){r:Nat}(hr:g.rd=some r){v:Str}(hv:v∈g.N)(hnp:g.np v= -1)(hN:∀s∈g.su v,s∈g.N)(hl:g.rl.length+(g.su v).length<=1000)(d:Nat)(l):
  akZ S g v l (aG (d+1) 120 [.ref g.i,.str v] ⟨l,S⟩):=by
 rw[fZ (L:=jc (some (.ref g.i)) (some (.ref S.length)) none none none none none none) (S₁:=S++[O.tup [.str v]]) (by kernel_rfl),aeg];refine uq λ Zz toG=>?_
 have h0:=h.push [O.tup [.str v]];have et:(S++[O.tup [.str v]])[S.length]?=some (.tup [.str v]):=nZ;have r1:=h0.setNp hv (-2);have st1:iH (S++[O.tup [.str v]]) g ((S++[O.tup [.str v]]).set (g.at_ v) (Wk g v (-2))) {g with np:=upd g.np v (-2)}:=iH.set _ (.inr (.inr (.inl ⟨v,hv,.inl rfl⟩))) (λ _ h=>h) rfl;generalize hS1:(S++[O.tup [.str v]]).set (g.at_ v) (Wk g v (-2))=S1 at*;have esu:S1[g.sl v]?=some (.list ((g.su v).map .str)):=r1.suc v hv;obtain⟨Y',f1,p,S2,o6,o7,hp,rfl,r2,st2,-,-,es2⟩:=mq (f:=V.str) (ok:=cW (.ref (g.sl v)) ⟨jc (some (.ref g.i)) (some (.ref S.length)) (some (.ref g.d)) (some (.str v)) (some (.ref (g.at_ v))) (some (.int (-1))) none none,S1⟩) (body:=λ w Y=>mR (aG d) (aX ("successor":Str) w Y))
  (aeM S1 g S.length v) (λ rest Y ⟨_,_,_,_,_,e,_,_,_,_,es⟩=>by rw[e];exact sE esu es) (λ s rest Y hI=>aak hr hv hI)
  (g.su v) ⟨jc (some (.ref g.i)) (some (.ref S.length)) (some (.ref g.d)) (some (.str v)) (some (.ref (g.at_ v))) (some (.int (-1))) none none,S1⟩
  ⟨(upd g.np v (-2),g.rl),S1,none,none,rfl,rfl,r1,.refl _ _,hl,hN,esu⟩
 obtain⟨ep,sa⟩:=yc r2 (L:=jc (some (.ref g.i)) (some (.ref S.length)) (some (.ref g.d)) (some (.str v)) (some (.ref (g.at_ v))) (some (.int (-1))) o6 o7) (x:=("_nfinished":Str)) (v:=.int (g.nf+1)) (rd:=g.rd) (po:=g.po) (nf:=g.nf+1) (by kernel_rfl) (λ ep=>ajC ..);replace hp:p=(g.su v).foldl oV (upd g.np v (-2),g.rl):=hp;have r3:=r2.setFld g.rd p.2 g.po (g.nf+1) ep (λ r' e=>r2.rdy r' e);have st3:iH S2 {g with np:=p.1,rl:=p.2} (S2.set g.fd (.dict (sX g.d g.rd g.po (g.nf+1)) ep)) {g with np:=p.1,rl:=p.2,nf:=g.nf+1}:=iH.set _ (.inl rfl) (λ _ h=>h) rfl;have hg:({g with np:=p.1,rl:=p.2,nf:=g.nf+1}:G)=S9 g v:=by rw[hp];rfl
 have stA:=(st1.trans st2).trans st3;have st:=(iH.push S [O.tup [.str v]] g).trans stA;rw[hg]at st;dsimp only[hg]at r3;simp only[hg]at r3;obtain⟨epd,ed⟩:=h0.dct;refine toG ⟨_,?_,r3,st⟩;have gt:=λ L=>h0.get (L:=L) v
 rw[if_pos hv]at gt;have anp:=λ L=>h0.a_np (L:=L) hv
 rw[hnp]at anp;have snp:=λ L=>h0.s_np (L:=L) hv (-2)
 rw[hS1]at snp;have n1:∀Y,vz (.int (-1)) (.int (-1)) Y=some false:=λ Y=>rfl
 have q4:DY (aG d) ⟨jc (some (.ref g.i)) (some (.ref S.length)) (some (.ref g.d)) (some (.str v)) (some (.ref (g.at_ v))) (some (.int (-1))) none none,S1⟩=.ok .next ⟨jc (some (.ref g.i)) (some (.ref S.length)) (some (.ref g.d)) (some (.str v)) (some (.ref (g.at_ v))) (some (.int (-1))) o6 o7,S2⟩:=by
  simp only[DY,adW,aC.bind_ok,(λ L=>r1.a_su (L:=L) hv),lV,(λ L=>jd (L:=L) esu (by rw[au];exact aV (by lia))),f1];rfl
 have body:Bp (aG d) ⟨jc (some (.ref g.i)) (some (.ref S.length)) (some (.ref g.d)) (some (.str v)) none none none none,S++[O.tup [.str v]]⟩=.ok .next ⟨jc (some (.ref g.i)) (some (.ref S.length)) (some (.ref g.d)) (some (.str v)) (some (.ref (g.at_ v))) (some (.int (-1))) o6 o7,S2.set g.fd (.dict (sX g.d g.rd g.po (g.nf+1)) ep)⟩:=by
  simp only[Bp,Lp,Lq,Lr,Ls,Vu,ai7,adW,aja,ai9,ajb,aC.bind_ok,(λ live args L=>Jj (cl:=aG d) (live:=live) (args:=args) (L:=L) ed),gt,nH,aO,aF,if_false,aQ,anp,n1,snp,q4];simp only[Lw,O9,aC.bind_ok,(λ L=>r2.a_nf (L:=L)),Ca,sa,aQ]
 have q2:VB (aG d) ⟨jc (some (.ref g.i)) (some (.ref S.length)) (some (.ref g.d)) none none none none none,S++[O.tup [.str v]]⟩=.ok .next ⟨jc (some (.ref g.i)) (some (.ref S.length)) (some (.ref g.d)) (some (.str v)) (some (.ref (g.at_ v))) (some (.int (-1))) o6 o7,S2.set g.fd (.dict (sX g.d g.rd g.po (g.nf+1)) ep)⟩:=by
  simp only[VB,ai5,aC.bind_ok,lV,(λ L=>nD (L:=L) et rfl),(I7 (ok:=cW (.ref S.length) ⟨jc (some (.ref g.i)) (some (.ref S.length)) (some (.ref g.d)) none none none none none,S++[O.tup [.str v]]⟩) (body:=λ w Y=>Bp (aG d) (aX ("node":Str) w Y)) (v:=.str v) (Y:=⟨jc (some (.ref g.i)) (some (.ref S.length)) (some (.ref g.d)) none none none none none,S++[O.tup [.str v]]⟩) (jZ et et) ((congrArg (Bp (aG d)) (ai8 ..)).trans body) (jZ et (stA.keep _ _ et (fX h))))];rfl
 simp only[akM,aee,aef,O9,ai6,aC.bind_ok,h0.a_rd' hr,nH,aO,aF,if_false,aQ,h0.a_n2i,q2,Ie]
noncomputable def Cyc(su:Str->List Str)(N:List Str):Prop:=∃C:List Str,C≠[]/\∀v∈C,v∈N/\∃p∈C,v∈su p
noncomputable def Ch(su:Str->List Str)(F:List Str):List (Str×Nat)->Option Str->Prop
 |[],_=>True
 |e::r,c=>(∀s∈(su e.1).take e.2,s∈F\/some s=((r.head?.map (·.1)).or c))/\(∀x,((r.head?.map (·.1)).or c)=some x->x∈su e.1)/\Ch su F r c
noncomputable def ags(su:Str->List Str)(F:List Str):Prop:=∀A f B,F=A++f::B->∀s∈su f,s∈A
structure Ep(su:Str->List Str)(N:List Str)(stk:List (Str×Nat))(seen F:List Str)(c:Option Str):Prop where
 ch:Ch su F stk c
 sn:∀s,s∈seen↔s∈F\/s∈stk.map (·.1)
 nds:(F++stk.map (·.1)).Nodup
 sub:∀s∈F++stk.map (·.1),s∈N
 topo:ags su F
noncomputable def z9(su:Str->List Str)(N seen:List Str):Nat:=((N.filter λ v=>decide (v∉seen)).map λ v=>(su v).length).sum
noncomputable def yd(su:Str->List Str)(stk:List (Str×Nat)):Nat:=(stk.map λ e=>(su e.1).length - e.2).sum
noncomputable def pot(su:Str->List Str)(N:List Str)(stk:List (Str×Nat))(seen:List Str):Nat:=z9 su N seen+yd su stk
variable {su:Str->List Str}{N:List Str}
theorem Ch.mono{F F':List Str}(h:∀s∈F,s∈F'):∀{stk:List (Str×Nat)}{c:Option Str},Ch su F stk c->Ch su F' stk c:=by
 intro stk;induction stk with
 |nil=>exact λ _=>trivial
 |cons e r ih=>exact λ⟨a,b,c⟩=>⟨λ s hs=>(a s hs).imp (h s) id,b,ih c⟩
theorem Ch.skip{F:List Str}{x:Str}(hx:x∈F):∀{stk:List (Str×Nat)},Ch su F stk (some x)->Ch su F stk none:=by
 intro stk;induction stk with
 |nil=>exact λ _=>trivial
 |cons e r ih=>
  rcases r with _|⟨e',r⟩
  ·exact λ⟨a,b,c⟩=>⟨λ s hs=>(a s hs).elim .inl λ q=>by cases q;exact .inl hx,nofun,trivial⟩
  ·exact λ⟨a,b,c⟩=>⟨a,b,ih c⟩
theorem Ch.push{F:List Str}{x:Str}:∀{stk:List (Str×Nat)},Ch su F stk (some x)->Ch su F (stk++[(x,0)]) none:=by
 intro stk;induction stk with
 |nil=>exact λ _=>⟨nofun,nofun,trivial⟩
 |cons e r ih=>
  rcases r with _|⟨e',r⟩
  ·exact λ⟨a,b,c⟩=>⟨a,b,nofun,nofun,trivial⟩
  ·exact λ⟨a,b,c⟩=>⟨a,b,ih c⟩
theorem Ch.next{F:List Str}{v x:Str}{p:Nat}(hx:(su v)[p]?=some x):∀{ini:List (Str×Nat)},Ch su F (ini++[(v,p)]) none->Ch su F (ini++[(v,p+1)]) (some x):=by
 intro ini;induction ini with
 |nil=>
  rintro⟨a,_,_⟩;refine⟨λ s hs=>?_,λ y q=>?_,trivial⟩
  ·have e:(su v).take (p+1)=(su v).take p++[x]:=by rw[List.take_add_one,hx];rfl
   rw[e]at hs;rcases aM.mp hs with hs|hs
   ·rcases a s hs with q|q
    ·exact .inl q
    ·contradiction
   ·rw[aJ.mp hs];exact .inr rfl
  ·cases q;exact bG hx
 |cons e r ih=>
  rcases r with _|⟨e',r⟩
  ·exact λ⟨a,b,c⟩=>⟨a,b,ih c⟩
  ·exact λ⟨a,b,c⟩=>⟨a,b,ih c⟩
theorem Ch.pop{F:List Str}{v:Str}{p:Nat}:∀{ini:List (Str×Nat)},Ch su F (ini++[(v,p)]) none->Ch su (F++[v]) ini none:=by
 intro ini;induction ini with
 |nil=>exact λ _=>trivial
 |cons e r ih=>
  rcases r with _|⟨e',r⟩
  ·exact λ⟨a,b,c⟩=>⟨λ s hs=>(a s hs).elim (λ q=>.inl (cg _ q)) λ q=>by cases q;exact .inl (by simp),nofun,trivial⟩
  ·exact λ⟨a,b,c⟩=>⟨λ s hs=>(a s hs).imp (cg _) id,b,ih c⟩
theorem Ch.top{F:List Str}{v:Str}{p:Nat}:∀{ini:List (Str×Nat)},Ch su F (ini++[(v,p)]) none->∀s∈(su v).take p,s∈F
 |[],⟨a,_,_⟩=>λ s hs=>(a s hs).elim id nofun
 |[e],⟨_,_,c⟩=>Ch.top (ini:=[]) c
 |e::e'::r,⟨_,_,c⟩=>Ch.top (ini:=e'::r) c
theorem Ch.ring{F:List Str}{x:Str}:∀{stk:List (Str×Nat)},Ch su F stk (some x)->x∈stk.map (·.1)->∃C:List Str,C≠[]/\(∀v∈C,v∈stk.map (·.1))/\∀v∈C,∃p∈C,v∈su p:=by
 intro stk;induction stk with
 |nil=>exact nofun
 |cons e r ih0=>
  rintro⟨a,b,c⟩ h;by_cases hr:x∈r.map (·.1)
  ·obtain⟨C,h1,h2,h3⟩:=ih0 c hr;exact⟨C,h1,λ v hv=>bM _ (h2 v hv),h3⟩
  ·have he:x=e.1:=by
    exact(bU.mp h).resolve_right hr
   have go:∀(r:List (Str×Nat)) (e:Str×Nat),Ch su F (e::r) (some x)->(∀v∈r.map (·.1),∃p∈(e::r).map (·.1),v∈su p)/\∃p∈(e::r).map (·.1),x∈su p:=by as_aux_lemma=>
    intro r;induction r with
    |nil=>exact λ e ⟨a,b,c⟩=>⟨nofun,e.1,by simp,b x rfl⟩
    |cons e' r ih=>
     rintro e ⟨a,b,c⟩;obtain⟨h1,p,h2,h3⟩:=ih e' c;refine⟨λ v hv=>?_,p,bM _ h2,h3⟩;rcases bU.mp hv with rfl|hv
     ·exact⟨e.1,by simp,b _ rfl⟩
     ·obtain⟨q,h4,h5⟩:=h1 v hv;exact⟨q,bM _ h4,h5⟩
   obtain⟨h1,h2⟩:=go r e ⟨a,b,c⟩;refine⟨(e::r).map (·.1),by simp,λ v hv=>hv,λ v hv=>?_⟩;rw[cA]at hv;rcases bU.mp hv with rfl|hv
   ·rw[<-he];exact h2
   ·exact h1 v hv
theorem Td{x:Str}{seen:List Str}(hN:N.Nodup)(hx:x∈N)(hs:x∉seen):z9 su N seen=(su x).length+z9 su N (seen++[x]):=by
 unfold z9;induction N with
 |nil=>contradiction
 |cons v N ih=>
  have e:∀w,w≠x->decide (w∉seen++[x])=decide (w∉seen):=λ w hw=>by simp[hw]
  simp only[gB];by_cases h:v=x
  ·clear ih hx;subst h;rw[if_pos (by simpa using hs)];rw[oU (λ w hw=>e w (λ q=>((fJ.mp hN).1) (q▸hw)))];simp
  ·have hx':x∈N:=(bU.mp hx).resolve_left λ q=>h q.symm
   have ih:=ih (fJ.mp hN).2 hx';rw[e v h];split
   ·rw[cA,jD,cA,jD,ih];lia
   ·exact ih
theorem Er(a b:List (Str×Nat)):yd su (a++b)=yd su a+yd su b:=by unfold yd;rw[aP,List.sum_append]
theorem Mu(v:Str)(p:Nat):yd su [(v,p)]=(su v).length - p:=by simp[yd]
theorem ags.snoc{F:List Str}{v:Str}(h:ags su F)(hv:∀s∈su v,s∈F):ags su (F++[v]):=λ A f B e s hs=>by
 induction hB:B.getLast? with
 |none=>
  rw[fO.mp hB]at e;have:=List.append_inj' e rfl;clear e;cases this.2;rw[<-this.1];exact hv s hs
 |some z=>
  obtain⟨q,rfl⟩:∃q,B=q++[z]:=by
   have hn:B≠[]:=λ q=>by rw[q]at hB;contradiction
   rw[qm hn]at hB;exact⟨B.dropLast,by rw[<-Option.some.inj hB,jY hn]⟩
  have:=List.append_inj' (show F++[v]=(A++f::q)++[z]by rw[e];simp) rfl;exact h A f q this.1 s hs
namespace Ep
variable {stk:List (Str×Nat)}{seen F:List Str}
theorem skip{x:Str}(h:Ep su N stk seen F (some x))(hx:x∈F):Ep su N stk seen F none:=⟨h.ch.skip hx,h.sn,h.nds,h.sub,h.topo⟩
theorem push{x:Str}(h:Ep su N stk seen F (some x))(hx:x∉seen)(hN:x∈N):Ep su N (stk++[(x,0)]) (seen++[x]) F none:=by
 refine⟨h.ch.push,λ s=>?_,?_,λ s hs=>?_,h.topo⟩
 ·rw[aM,h.sn,aP,aM,or_assoc];rfl
 ·rw[aP,<-aj];refine cN.mpr ⟨h.nds,by simp,λ a ha b hb q=>?_⟩;rw[m9,aJ]at hb;rw[hb]at q;rw[q]at ha;exact hx ((h.sn x).mpr (aM.mp ha))
 ·rw[aP,<-aj]at hs;rcases aM.mp hs with hs|hs
  ·exact h.sub s hs
  ·rw[aJ.mp hs];exact hN
set_option tactic.hygienic true in
theorem next{ini:List (Str×Nat)}{v x:Str}{p:Nat}(h:Ep su N (ini++[(v,p)]) seen F none)(hx:(su v)[p]?=some x):Ep su N (ini++[(v,p+1)]) seen F (some x):=by
 have e:(ini++[(v,p+1)]).map (·.1)=(ini++[(v,p)]).map (·.1):=by simp
 exact⟨h.ch.next hx,λ s=>by rw[e];exact h.sn s,by rw[e];exact h.nds,by rw[e];exact h.sub,h.topo⟩
theorem pop{ini:List (Str×Nat)}{v:Str}{p:Nat}(h:Ep su N (ini++[(v,p)]) seen F none)(hp:(su v).length<=p):Ep su N ini seen (F++[v]) none:=by
 have top:=h.ch.top;rw[dU hp]at top;have hn:=h.nds;rw[aP]at hn;have perm:(F++(ini.map (·.1)++[v])).Perm ((F++[v])++ini.map (·.1)):=by
  rw[aj];exact List.Perm.append_left _ List.perm_append_comm
 refine⟨h.ch.pop,λ s=>?_,perm.nodup_iff.mp hn,λ s hs=>h.sub s (by rw[aP];exact perm.mem_iff.mpr hs),h.topo.snoc top⟩;rw[h.sn,aP,<-aM,<-aM];exact perm.mem_iff
theorem cyc{x:Str}(h:Ep su N stk seen F (some x))(hx:x∈stk.map (·.1)):Cyc su N:=by
 obtain⟨C,h1,h2,h3⟩:=h.ch.ring hx;exact⟨C,h1,λ v hv=>⟨h.sub v (iu _ (h2 v hv)),h3 v hv⟩⟩
theorem done(h:Ep su N [] seen F none)(hN:∀v∈N,v∈seen):¬ Cyc su N:=by
 rintro⟨C,h1,h2⟩;have hF:∀v∈C,v∈F:=λ v hv=>((h.sn v).mp (hN v (h2 v hv).1)).elim id nofun
 have last:∀F:List Str,(∃x∈F,x∈C)->∃A f B,F=A++f::B/\f∈C/\∀b∈B,b∉C:=by
  intro F;induction F with
  |nil=>rintro⟨x,h,_⟩;contradiction
  |cons a F ih=>
   rintro⟨x,hx,hc⟩;by_cases q:∃x∈F,x∈C
   ·obtain⟨A,f,B,e,h1,h2⟩:=ih q;exact⟨a::A,f,B,by rw[e];rfl,h1,h2⟩
   ·rcases bU.mp hx with rfl|hx
    ·exact⟨[],x,F,rfl,hc,λ b hb hbc=>q ⟨b,hb,hbc⟩⟩
    ·exact absurd ⟨x,hx,hc⟩ q
 obtain⟨c0,hc0⟩:=lU C h1;obtain⟨A,f,B,e,hf,hB⟩:=last F ⟨c0,hF c0 hc0,hc0⟩;obtain⟨_,p,hp,hfp⟩:=h2 f hf;have nd:=h.nds;rw[gO,aW,e]at nd;have nA:f∉A:=λ q=>(cN.mp nd).2.2 f q f bw rfl
 have hpF:=hF p hp;rw[e]at hpF;rcases aM.mp hpF with hpF|hpF
 ·obtain⟨A1,A2,rfl⟩:=List.append_of_mem hpF;exact nA (cg _ (h.topo A1 p (A2++f::B) (by rw[e];simp) f hfp))
 ·rcases bU.mp hpF with rfl|hpB
  ·exact nA (h.topo A p B e p hfp)
  ·exact hB p hpB hp
end Ep
structure nJ where
 nm:Str
 ps:Nat
 it:Nat
 bn:Nat
noncomputable def Jp(stk:List nJ):List (Str×Nat):=stk.map λ e=>(e.nm,e.ps)
theorem Wo(stk:List nJ):(Jp stk).map (·.1)=stk.map (·.nm):=by simp[Jp]
noncomputable def Cw(stk:List nJ):List (Str×V):=stk.zipIdx.map λ p=>(p.1.nm,.int (p.2:Nat))
structure Cp(S T:List O)(g:G)(stk:List nJ)(seen:List Str):Prop where
 pre:S <+: T
 st:T[S.length]?=some (.list ((stk.map (·.nm)).map .str))
 is:T[S.length+1]?=some (.list (stk.map λ e=>.ref e.bn))
 se:T[S.length+2]?=some (.set seen)
 n2:∃ep,T[S.length+3]?=some (.dict (Cw stk) ep)
 en:∀e∈stk,T[e.it]?=some (.liter (g.sl e.nm) e.ps)/\T[e.bn]?=some (.bnext e.it)
 di:(stk.map (·.it)).Nodup
 big:∀e∈stk,S.length<=e.it
theorem pZ{S T:List O}{i:Nat}(h:S <+: T)(hi:S.length<=i)(o:O):S <+: T.set i o:=by
 obtain⟨X,rfl⟩:=h;rw[gY,if_neg (by lia)];exact bC ..
theorem Qg{S T:List O}{g:G}(h:fM S g)(p:S <+: T):fM T g:=by obtain⟨X,rfl⟩:=p;exact h.push X
theorem dN{S:List O}{a b:Nat}{o y:O}(h:a≠b)(e:S[b]?=some y):(S.set a o)[b]?=some y:=by rw[aY h];exact e
theorem Cq(stk:List nJ)(e:nJ):Cw (stk++[e])=Cw stk++[(e.nm,.int (stk.length:Nat))]:=by
 unfold Cw;rw[List.zipIdx_append,aP,jA];rfl
theorem Cr(x:Str)(stk:List nJ):(Cw stk).any (λ p=>p.1==x)=decide (x∈stk.map (·.nm)):=by
 unfold Cw;simp only[List.any_map];have:∀(stk:List nJ) (k:Nat),(stk.zipIdx k).any ((λ p:Str×V=>p.1==x)∘λ p=>(p.1.nm,.int (p.2:Nat)))=decide (x∈stk.map (·.nm)):=by
  intro stk;induction stk with
  |nil=>intro k;rfl
  |cons e r ih=>
   intro k;simp only[List.zipIdx_cons,p6,ih];by_cases h:e.nm=x
   ·simp[h]
   ·have:(e.nm==x)=false:=beq_eq_false_iff_ne.mpr h;simp[this,Ne.symm h]
 exact this stk 0
theorem Wq{x:Str}{stk:List nJ}(h:x∈stk.map (·.nm)):∃j:Nat,(Cw stk).lookup x=some (.int j)/\j < stk.length:=by
 have:∀(stk:List nJ) (k:Nat),x∈stk.map (·.nm)->∃j:Nat,((stk.zipIdx k).map λ p=>(p.1.nm,V.int (p.2:Nat))).lookup x=some (.int j)/\j < k+stk.length:=by
  intro stk;induction stk with
  |nil=>intro k h;contradiction
  |cons e r ih=>
   intro k h;rw[List.zipIdx_cons,cA,List.lookup_cons];by_cases q:x=e.nm
   ·rw[show(x==(e,k).1.nm)=true by rw[q];exact beq_self_eq_true _];exact⟨k,rfl,by rw[aZ];simp⟩
   ·have hb:(x==e.nm)=false:=beq_eq_false_iff_ne.mpr q;rw[hb];obtain⟨j,h1,h2⟩:=ih (k+1) ((bU.mp h).resolve_left q);exact⟨j,h1,by rw[aZ];lia⟩
 obtain⟨j,h1,h2⟩:=this stk 0 h;exact⟨j,h1,by lia⟩
theorem agt{stk:List nJ}{e:nJ}(h:e.nm∉stk.map (·.nm)):(Cw (stk++[e])).filter (λ p=>!(p.1==e.nm))=Cw stk:=by
 simp only[Cq,sU];have h1:(Cw stk).filter (λ p=>!(p.1==e.nm))=Cw stk:=by
  refine qI.mpr λ p hp=>?_
  have:=Cr e.nm stk;rw[decide_eq_false h]at this;have:=List.any_eq_false.mp this p hp;simpa using this
 rw[h1];simp
theorem Cp.push{S T:List O}{g:G}{stk:List nJ}{seen:List Str}(h:Cp S T g stk seen){x:Str}(hx:x∉stk.map (·.nm)){ep:Nat}(e3:T[S.length+3]?=some (.dict (Cw stk) ep)):
  Cp S (((((T.set (S.length+2) (O.set (seen++[x])))++[O.liter (g.sl x) 0]++[O.bnext T.length]).set (S.length+1) (O.list ((stk.map λ e:nJ=>V.ref e.bn)++[V.ref (T.length+1)]))).set (S.length+3) (O.dict (Cw stk++[(x,V.int (stk.length:Nat))]) (ep+1))).set S.length (O.list ((stk.map λ e:nJ=>e.nm).map V.str++[V.str x]))) g (stk++[⟨x,0,T.length,T.length+1⟩]) (seen++[x]):=by
 have l3:=cT e3;have hlen:(T.set (S.length+2) (O.set (seen++[x]))).length=T.length:=dw;generalize hT1:T.set (S.length+2) (O.set (seen++[x]))=T1 at*;have ke:∀e∈stk,T1[e.it]?=some (.liter (g.sl e.nm) e.ps)/\T1[e.bn]?=some (.bnext e.it):=λ e he=>by
  rw[<-hT1];exact⟨bN _ h.se (h.en e he).1 nofun,bN _ h.se (h.en e he).2 nofun⟩
 have m0:=aK (J:=[O.bnext T.length]) (aK (J:=[O.liter (g.sl x) 0]) (by rw[<-hT1];exact dN (by lia) h.st:T1[S.length]?=some (.list ((stk.map (·.nm)).map .str))));have m1:=aK (J:=[O.bnext T.length]) (aK (J:=[O.liter (g.sl x) 0]) (by rw[<-hT1];exact dN (by lia) h.is:T1[S.length+1]?=some (.list (stk.map λ e=>.ref e.bn))));have m2:=aK (J:=[O.bnext T.length]) (aK (J:=[O.liter (g.sl x) 0]) (by rw[<-hT1];exact pK _ h.se:T1[S.length+2]?=some (.set (seen++[x]))));have m3:=aK (J:=[O.bnext T.length]) (aK (J:=[O.liter (g.sl x) 0]) (by rw[<-hT1];exact dN (by lia) e3:T1[S.length+3]?=some (.dict (Cw stk) ep)));have mi:(T1++[O.liter (g.sl x) 0]++[O.bnext T.length])[T.length]?=some (.liter (g.sl x) 0):=by rw[<-hlen];exact aK (cM _)
 have mb:(T1++[O.liter (g.sl x) 0]++[O.bnext T.length])[T.length+1]?=some (.bnext T.length):=by
  have:=cM (S:=T1++[O.liter (g.sl x) 0]) (.bnext T.length);rw[aq,hlen]at this;exact this
 have me:∀e∈stk,(T1++[O.liter (g.sl x) 0]++[O.bnext T.length])[e.it]?=some (.liter (g.sl e.nm) e.ps)/\(T1++[O.liter (g.sl x) 0]++[O.bnext T.length])[e.bn]?=some (.bnext e.it):=λ e he=>⟨aK (aK (ke e he).1),aK (aK (ke e he).2)⟩
 have pre2:=kj (kj (by rw[<-hT1];exact pZ h.pre (by simp) _:S <+: T1) [O.liter (g.sl x) 0]) [O.bnext T.length];generalize T1++[O.liter (g.sl x) 0]++[O.bnext T.length]=U at*;have go:∀{i:Nat}{y:O},U[i]?=some y->i≠S.length->i≠S.length+1->i≠S.length+3->(((U.set (S.length+1) (O.list ((stk.map λ e:nJ=>V.ref e.bn)++[V.ref (T.length+1)]))).set (S.length+3) (O.dict (Cw stk++[(x,V.int (stk.length:Nat))]) (ep+1))).set S.length (O.list ((stk.map λ e:nJ=>e.nm).map V.str++[V.str x])))[i]?=some y:=λ e a b c=>dN (Ne.symm a) (dN (Ne.symm c) (dN (Ne.symm b) e))
 have lU1:=cT m1;have lU3:=cT m3;have kind:∀{i:Nat}{l p:Nat},U[i]?=some (.liter l p)->i≠S.length/\i≠S.length+1/\i≠S.length+3:=λ e=>⟨jF e m0 nofun,jF e m1 nofun,jF e m3 nofun⟩
 have kindb:∀{i:Nat}{l:Nat},U[i]?=some (.bnext l)->i≠S.length/\i≠S.length+1/\i≠S.length+3:=λ e=>⟨jF e m0 nofun,jF e m1 nofun,jF e m3 nofun⟩
 refine⟨pZ (pZ (pZ pre2 (by simp) _) (by simp) _) (by simp) _,?_,?_,?_,⟨ep+1,?_⟩,?_,?_,?_⟩
 ·rw[bR (by rw[dw,dw];exact(cT m0)),aP,aP];rfl
 ·rw[aY (by lia),aY (by simp),bR lU1,aP];rfl
 ·exact go m2 (by lia) (by lia) (by lia)
 ·rw[aY (by lia),bR (by rw[dw];exact lU3),Cq]
 ·intro e he;rcases aM.mp he with he|he
  ·obtain⟨a,b,c⟩:=kind (me e he).1;obtain⟨a',b',c'⟩:=kindb (me e he).2;exact⟨go (me e he).1 a b c,go (me e he).2 a' b' c'⟩
  ·rw[aJ.mp he];obtain⟨a,b,c⟩:=kind mi;obtain⟨a',b',c'⟩:=kindb mb;exact⟨go mi a b c,go mb a' b' c'⟩
 ·rw[aP];refine cN.mpr ⟨h.di,by simp,λ p hp q hq e=>?_⟩;rw[m9,aJ]at hq;obtain⟨e',he',rfl⟩:=dD.mp hp;replace hq:q=T.length:=hq;have:=cT (h.en e' he').1;lia
 ·intro e he;rcases aM.mp he with he|he
  ·exact h.big e he
  ·rw[aJ.mp he];show S.length<=T.length;lia
theorem Cp.next{S T:List O}{g:G}{ini:List nJ}{e:nJ}{seen:List Str}(h:Cp S T g (ini++[e]) seen):Cp S (T.set e.it (.liter (g.sl e.nm) (e.ps+1))) g (ini++[⟨e.nm,e.ps+1,e.it,e.bn⟩]) seen:=by
 have he:=h.en e qd;obtain⟨ep,e3⟩:=h.n2;have hbig:=h.big e qd;refine⟨pZ h.pre hbig _,?_,?_,bN _ he.1 h.se nofun,⟨ep,?_⟩,λ e' he'=>?_,by rw[(by rw[aP,aP];rfl:(ini++[(⟨e.nm,e.ps+1,e.it,e.bn⟩:nJ)]).map (·.it)=(ini++[e]).map (·.it))];exact h.di,λ e' he'=>?_⟩
 ·rw[(by rw[aP,aP];rfl:(ini++[(⟨e.nm,e.ps+1,e.it,e.bn⟩:nJ)]).map (·.nm)=(ini++[e]).map (·.nm))];exact bN _ he.1 h.st nofun
 ·rw[(by rw[aP,aP];rfl:(ini++[(⟨e.nm,e.ps+1,e.it,e.bn⟩:nJ)]).map (λ e=>V.ref e.bn)=(ini++[e]).map (λ e=>V.ref e.bn))];exact bN _ he.1 h.is nofun
 ·rw[(by rw[Cq,Cq]:Cw (ini++[(⟨e.nm,e.ps+1,e.it,e.bn⟩:nJ)])=Cw (ini++[e]))];exact bN _ he.1 e3 nofun
 ·rcases aM.mp he' with he'|he'
  ·have h2:=h.en e' (cg _ he');have hne:e.it≠e'.it:=λ q=>by
    have hd:=h.di;rw[aP]at hd;exact(cN.mp hd).2.2 e'.it (dD.mpr ⟨e',he',rfl⟩) e.it (by simp) q.symm
   exact⟨dN hne h2.1,bN _ he.1 h2.2 nofun⟩
  ·rw[aJ.mp he'];exact⟨pK _ he.1,bN _ he.1 he.2 nofun⟩
 ·rcases aM.mp he' with he'|he'
  ·exact h.big e' (cg _ he')
  ·rw[aJ.mp he'];exact hbig
theorem Cp.pop{S T:List O}{g:G}{ini:List nJ}{e:nJ}{seen:List Str}(h:Cp S T g (ini++[e]) seen)(ep:Nat):
  Cp S ((((T.set e.it O.any).set S.length (O.list ((ini.map λ e:nJ=>e.nm).map V.str))).set (S.length+3) (O.dict (Cw ini) ep)).set (S.length+1) (O.list (ini.map λ e:nJ=>V.ref e.bn))) g ini seen:=by
 have he:=h.en e qd;obtain⟨ep0,e3⟩:=h.n2;have k0:=bN .any he.1 h.st nofun;have k1:=bN .any he.1 h.is nofun;have k3:=bN .any he.1 e3 nofun;have ke:∀e'∈ini,(T.set e.it O.any)[e'.it]?=some (.liter (g.sl e'.nm) e'.ps)/\(T.set e.it O.any)[e'.bn]?=some (.bnext e'.it):=λ e' he'=>by
  have h2:=h.en e' (cg _ he');have hne:e.it≠e'.it:=λ q=>by
   have hd:=h.di;rw[aP]at hd;exact(cN.mp hd).2.2 e'.it (dD.mpr ⟨e',he',rfl⟩) e.it (by simp) q.symm
  exact⟨dN hne h2.1,bN _ he.1 h2.2 nofun⟩
 have pre:=pZ h.pre (h.big e qd) .any;have l1:=cT k1;have l3:=cT k3;refine⟨pZ (pZ (pZ pre (by simp) _) (by simp) _) (by simp) _,?_,?_,?_,⟨ep,?_⟩,λ e' he'=>?_,?_,λ e' he'=>h.big e' (cg _ he')⟩
 ·rw[aY (by simp),aY (by simp),bR (cT k0)]
 ·rw[bR (by rw[dw,dw];exact l1)]
 ·exact dN (by simp) (dN (by simp) (dN (by simp) (bN .any he.1 h.se nofun)))
 ·rw[aY (by simp),bR (by rw[dw];exact l3)]
 ·have h2:=ke e' he';exact⟨dN (Ne.symm (jF h2.1 k1 nofun)) (dN (Ne.symm (jF h2.1 k3 nofun)) (dN (Ne.symm (jF h2.1 k0 nofun)) h2.1)),dN (Ne.symm (jF h2.2 k1 nofun)) (dN (Ne.symm (jF h2.2 k3 nofun)) (dN (Ne.symm (jF h2.2 k0 nofun)) h2.2))⟩
 ·have hd:=h.di;rw[aP]at hd;exact(cN.mp hd).1
section
variable {L:List (Str×Option V)}{S:List O}{n:Nat}
theorem Qh{xs:List Str}(e:S[n]?=some (.set xs))(hl:xs.length < 4001)(x:Str):inM (.str x) (.ref n) ⟨L,S⟩=some (decide (x∈xs)):=(dY e).trans ((if_pos (decide_eq_true hl)).trans (congrArg some (qt ..)))
theorem XF{kvs:List (Str×V)}{ep:Nat}(e:S[n]?=some (.dict kvs ep))(x:Str):inM (.str x) (.ref n) ⟨L,S⟩=some (kvs.any λ p=>p.1==x):=dY e
theorem aeO{cl:Nat->List V->St->aC V}{live:Bool}{args:St->aC (List V)}{xs:List Str}(e:S[n]?=some (.set xs)):cZ cl live ("add":Str) args (.ref n) ⟨L,S⟩=(args ⟨L,S⟩).bind λ vs Y=>gH .add (.ref n) vs Y:=by
 unfold cZ;rw[show pR (.ref n) ("add":Str) ⟨L,S⟩=some (.bi .add)from(dY e).trans (congrArg (wG vA.bi) (by kernel_rfl:GP.lookup ("add":Str)=some .add))]
theorem agu{xs:List Str}(e:S[n]?=some (.set xs))(hl:xs.length < 4000)(hk:8<=n){x:Str}(hx:x∉xs):gH .add (.ref n) [.str x] ⟨L,S⟩=.ok .none ⟨L,S.set n (.set (xs++[x]))⟩:=by
 refine(gD e).trans ((if_pos (decide_eq_true ⟨rfl,hl⟩)).trans ((if_pos hk).trans ?_));rw[if_neg (by rw[qt];simpa using hx)];rfl
theorem aam{cl}{xs:List V}(e:S[n]?=some (.list xs)):gq cl .iter [.ref n] ⟨L,S⟩=.ok (.ref S.length) ⟨L,S++[.liter n 0]⟩:=by
 refine(gD (gm e)).trans ?_;rfl
theorem aan{l i:Nat}(e:S[n]?=some (.liter l i)):fu (.ref n) ("__next__":Str) ⟨L,S⟩=.ok (.ref S.length) ⟨L,S++[.bnext n]⟩:=by
 refine(gD e).trans ?_;rfl
theorem aao{it l i:Nat}{xs:List V}(e:S[n]?=some (.bnext it))(e1:S[it]?=some (.liter l i))(e2:S[l]?=some (.list xs))(hs:small xs.length=true)(hk:8<=it){v:V}(hv:xs[i]?=some v):JZ n ⟨L,S⟩=.ok v ⟨L,S.set it (.liter l (i+1))⟩:=by
 show onS ((S[n]?).bind O.bnext?) _=_;rw[e];show onS ((S[it]?).bind O.liter?) _=_;rw[e1];show onS (St.list? ⟨L,S⟩ l) _=_;rw[gm e2];refine(if_pos hs).trans ?_;dsimp only[Ae];rw[hv];exact if_pos hk
theorem aap{it l i:Nat}{xs:List V}(e:S[n]?=some (.bnext it))(e1:S[it]?=some (.liter l i))(e2:S[l]?=some (.list xs))(hs:small xs.length=true)(hk:8<=it)(hv:xs[i]?=none):JZ n ⟨L,S⟩=.exc .stop ⟨L,S.set it .any⟩:=by
 show onS ((S[n]?).bind O.bnext?) _=_;rw[e];show onS ((S[it]?).bind O.liter?) _=_;rw[e1];show onS (St.list? ⟨L,S⟩ l) _=_;rw[gm e2];refine(if_pos hs).trans ?_;unfold Ae;rw[hv];exact if_pos hk
theorem aeP{kvs:List (Str×V)}{ep:Nat}{x:Str}(e:S[n]?=some (.dict kvs ep))(hs:small kvs.length=true)(hx:kvs.any (λ p=>p.1==x)=true)(hk:8<=n):Ab (.ref n) (.str x) ⟨L,S⟩=.ok .none ⟨L,S.set n (.dict (kvs.filter λ p=>!(p.1==x)) (ep+1))⟩:=by
 show onS (St.dict? ⟨L,S⟩ n) _=_;rw[ur e];exact(if_pos (by rw[hs,hx];rfl)).trans (if_pos hk)
end
noncomputable abbrev jL(g:G)(a:Nat)(o:Option V):List (Str×Option V):=mQ (some (.ref g.i)) (some (.ref g.d)) (some (.ref a)) (some (.ref (a+1))) (some (.ref (a+2))) (some (.ref (a+3))) o
section
variable {S T:List O}{g:G}{stk:List nJ}{seen:List Str}{cl:Nat->List V->St->aC V}{o:Option V}
theorem aeQ(h:Cp S T g stk seen)(hS:fM S g)(hk:8<=S.length){x:Str}(hx:x∉seen)(hN:x∈g.N)(hxs:x∉stk.map (·.nm))(hl:seen.length < 4000)(hl2:stk.length<=1000):
  ∃T',jw cl ⟨jL g S.length (some (.str x)),T⟩=.ok .next ⟨jL g S.length (some (.str x)),T'⟩/\Cp S T' g (stk++[⟨x,0,T.length,T.length+1⟩]) (seen++[x]):=by
 obtain⟨ep,e3⟩:=h.n2;refine⟨_,?_,(h.push hxs e3)⟩;have i1:=λ L=>Qh (L:=L) h.se (by exact cQ (by assumption)) x
 rw[decide_eq_false hx]at i1;have hnm:¬ qQ g (S.length+2):=λ q=>by
  have lt:∀{a:Nat} {o},S[a]?=some o->a < S.length:=cT;rcases q with q|q|⟨v,hv,q|q⟩|q
  ·obtain⟨ep,e⟩:=hS.fld;have:=lt e;lia
  ·obtain⟨ep,e⟩:=hS.dct;have:=lt e;lia
  ·have:=lt (hS.nod v hv);lia
  ·have:=lt (hS.suc v hv);lia
  ·have:=lt (hS.rdy _ q).2.1;lia
 have r1:fM (T.set (S.length+2) (O.set (seen++[x]))) g:=Qg hS (pZ h.pre (by simp) _);have hlen:(T.set (S.length+2) (O.set (seen++[x]))).length=T.length:=dw;have k1:(T.set (S.length+2) (O.set (seen++[x])))[S.length+1]?=_:=dN (by simp) h.is;have ir:=λ L=>aam (cl:=cl) (L:=L) (r1.suc x hN)
 have an:=λ L=>aan (L:=L) (cM (S:=T.set (S.length+2) (O.set (seen++[x]))) (.liter (g.sl x) 0))
 have ap:=λ L=>nC (L:=L) (aK (J:=[O.bnext (T.set (S.length+2) (O.set (seen++[x]))).length]) (aK (J:=[O.liter (g.sl x) 0]) k1)) (by rw[au];exact aV (by lia)) (by exact cQ (by assumption)) (.ref (T.set (S.length+2) (O.set (seen++[x]))++[O.liter (g.sl x) 0]).length)
 rw[aq,hlen]at ap;replace ap:∀L,gH .append (.ref (S.length+1)) [.ref (T.length+1)] ⟨L,T.set (S.length+2) (O.set (seen++[x]))++[O.liter (g.sl x) 0]++[O.bnext T.length]⟩=.ok .none ⟨L,(T.set (S.length+2) (O.set (seen++[x]))++[O.liter (g.sl x) 0]++[O.bnext T.length]).set (S.length+1) (O.list ((stk.map λ e:nJ=>V.ref e.bn)++[V.ref (T.length+1)]))⟩:=ap;rw[aq,hlen]at an;rw[hlen]at ir;have n0:=dN (a:=S.length+1) (o:=O.list ((stk.map λ e:nJ=>V.ref e.bn)++[V.ref (T.length+1)])) (by simp) (aK (J:=[O.bnext T.length]) (aK (J:=[O.liter (g.sl x) 0]) (dN (by lia) h.st:(T.set (S.length+2) (O.set (seen++[x])))[S.length]?=_)));have sz0:small ((stk.map λ e:nJ=>e.nm).map V.str).length=true:=by rw[au,au];exact aV (by lia)
 have ll:=λ L=>uX (L:=L) n0 sz0
 rw[au,au]at ll;have si:=λ L=>qT (L:=L) (dN (a:=S.length+1) (o:=O.list ((stk.map λ e:nJ=>V.ref e.bn)++[V.ref (T.length+1)])) (by lia) (aK (J:=[O.bnext T.length]) (aK (J:=[O.liter (g.sl x) 0]) (dN (by lia) e3:(T.set (S.length+2) (O.set (seen++[x])))[S.length+3]?=_)))) (by rw[(by unfold Cw;rw[au,List.length_zipIdx]:(Cw stk).length=stk.length)];exact aV (by lia)) (by lia) x (.int (stk.length:Nat))
 have hd:g8 (Cw stk) ep x (.int (stk.length:Nat))=.dict (Cw stk++[(x,.int (stk.length:Nat))]) (ep+1):=by
  delta g8 uw
  rw[Cr,decide_eq_false hxs,if_neg cY,if_neg cY]
 rw[hd]at si;have p0:=dN (a:=S.length+3) (o:=O.dict (Cw stk++[(x,V.int (stk.length:Nat))]) (ep+1)) (by lia) n0;simp only[jw,zy,wV,wW,wX,wY,ad0,DR,Pa,Ir,Pb,Iu,aC.bind_ok,i1,aO,aF,if_false,(λ cl live args L=>aeO (cl:=cl) (live:=live) (args:=args) (L:=L) h.se),(λ L=>agu (L:=L) h.se hl (by lia) hx),aQ,(λ live args L=>jN (cl:=cl) (live:=live) (args:=args) (L:=L) k1),(λ L=>r1.item (L:=L) hN),dX,(λ L=>r1.a_su (L:=L) hN),ir,an,ap,ll,si,(λ live args L=>jN (cl:=cl) (live:=live) (args:=args) (L:=L) p0),(λ L=>nC (L:=L) p0 sz0 hk (.str x)),aZ,cR]
theorem aeR(h:Cp S T g stk seen){x:Str}(hx:x∈seen)(hxs:x∉stk.map (·.nm))(hl:seen.length < 4000):jw cl ⟨jL g S.length (some (.str x)),T⟩=.ok .next ⟨jL g S.length (some (.str x)),T⟩:=by
 obtain⟨ep,e3⟩:=h.n2;have i1:=λ L=>Qh (L:=L) h.se (by exact cQ (by assumption)) x
 simp only[decide_eq_true hx]at i1;have i2:=λ L=>XF (L:=L) e3 x
 simp only[Cr,decide_eq_false hxs]at i2;simp only[jw,t8,qz,Ir,Pb,Iu,aC.bind_ok,i1,i2,aO,if_true,aF,if_false,aQ]
theorem aeS(h:Cp S T g stk seen){x:Str}(hx:x∈seen)(hxs:x∈stk.map (·.nm))(hl:seen.length < 4000)(hl2:stk.length<=1000):
  ∃r J ys,jw cl ⟨jL g S.length (some (.str x)),T⟩=.ok (.ret (.ref r)) ⟨jL g S.length (some (.str x)),T++J⟩/\(T++J)[r]?=some (.list (ys++[.str x]))/\ys.length<=1000:=by
 obtain⟨ep,e3⟩:=h.n2;obtain⟨j,j1,j2⟩:=Wq hxs;have i1:=λ L=>Qh (L:=L) h.se (by exact cQ (by assumption)) x
 simp only[decide_eq_true hx]at i1;have i2:=λ L=>XF (L:=L) e3 x
 simp only[Cr,decide_eq_true hxs]at i2;have it:=λ L=>Eo (L:=L) e3 x
 simp only[j1]at it;refine⟨(T++[O.list (((stk.map λ e:nJ=>e.nm).map V.str).drop j)]++[O.list [.str x]]).length,[.list (((stk.map λ e:nJ=>e.nm).map V.str).drop j)]++([.list [.str x]]++[.list (((stk.map λ e:nJ=>e.nm).map V.str).drop j++[.str x])]),((stk.map λ e:nJ=>e.nm).map V.str).drop j,?_,?_,by rw[eY,au,au];lia⟩;rotate_left
 ·rw[<-aj,<-aj];exact cM _
 ·rw[<-aj,<-aj];simp only[jw,t8,qz,uM,rP,DR,Ir,Pb,Iu,aC.bind_ok,i1,i2,aO,if_true,it,dX,(λ L=>qD (L:=L) h.st (by rw[au,au];exact aV (by lia)) (i:=j) (by lia)),fG,(λ L=>add_list (L:=L) (aK (J:=[O.list [.str x]]) (cM (S:=T) (.list (((stk.map λ e:nJ=>e.nm).map V.str).drop j)))) (cM (S:=T++[O.list (((stk.map λ e:nJ=>e.nm).map V.str).drop j)]) (.list [.str x])) (by rw[eY,au,au];exact aV (by show _+1<=_;lia))),eV]
end
theorem Cu:∀{xs ys:List Str},xs.Nodup->(∀x∈xs,x∈ys)->xs.length<=ys.length:=by
 intro xs;induction xs with
 |nil=>exact λ _ _=>dR _
 |cons x xs ih=>
  intro ys h hs;have hx:=hs x bw;have ih:=ih (ys:=ys.erase x) (fJ.mp h).2 λ y hy=>(List.mem_erase_of_ne (show y≠x from λ q=>((fJ.mp h).1) (by rw[<-q];exact hy))).mpr (hs y (bM _ hy))
  rw[List.length_erase_of_mem hx]at ih;have:=List.length_pos_of_mem hx;simp only[aZ];lia
theorem aaq{α:Type}(xs:List α):xs=[]\/∃ini e,xs=ini++[e]:=by
 induction h:xs.getLast? with
 |none=>exact .inl (fO.mp h)
 |some z=>
  have hn:xs≠[]:=λ q=>by rw[q]at h;contradiction
  exact .inr ⟨xs.dropLast,xs.getLast hn,(jY hn).symm⟩
structure Cv(S T:List O)(g:G)(stk:List nJ)(seen F:List Str)(c:Option Str):Prop where
 rep:Cp S T g stk seen
 good:Ep g.su g.N (Jp stk) seen F c
 sl:seen.length=F.length+stk.length
namespace Cv
variable {S T:List O}{g:G}{stk:List nJ}{seen F:List Str}{c:Option Str}
theorem few(h:Cv S T g stk seen F c)(hS:fM S g):seen.length<=60/\stk.length<=60:=by
 have:=Cu h.good.nds h.good.sub;rw[aq,au]at this;have e:(Jp stk).length=stk.length:=au ..;have:=h.sl;have:=hS.len;lia
end Cv
inductive DIn(S:List O)(g:G)(stk:List nJ)(seen:List Str)(x:Str)(r:aC Fl):Prop
 |on {T':List O}{stk':List nJ}{F':List Str}{y:Str}(e:r=.ok .next ⟨jL g S.length (some (.str y)),T'⟩) (h:Cv S T' g stk' seen F' (some y)) (hy:y∈g.N) (hl:yd g.su (Jp stk') < yd g.su (Jp stk))
 |off {T':List O}{F':List Str}(e:r=.ok .brk ⟨jL g S.length (some (.str x)),T'⟩) (h:Cv S T' g [] seen F' none)
inductive ana(S:List O)(g:G)(stk:List nJ)(seen:List Str)(x:Str)(n:Nat)(Y:St):Prop
 |mk (T':List O) (stk':List nJ) (F':List Str) (e:Y=⟨jL g S.length (some (.str x)),T'⟩) (hn:n=stk'.length) (h:Cv S T' g stk' seen F' none) (hl:yd g.su (Jp stk')<=yd g.su (Jp stk))
section
variable {S:List O}{g:G}(hS:fM S g) (hk:8<=S.length) (hsu:∀v∈g.N,∀s∈g.su v,s∈g.N) {cl:Nat->List V->St->aC V}
include hS hk hsu
theorem aar{T:List O}{stk:List nJ}{seen F:List Str}{x:Str}(h:Cv S T g stk seen F none):DIn S g stk seen x (wg cl ⟨jL g S.length (some (.str x)),T⟩):=by
 unfold wg;rw[if_pos rfl];refine yW (Z:=DIn S g stk seen x) (ana S g stk seen x) (λ n Y hI=>?_) wf stk.length _ (by have:=(h.few hS).2;show _ < 100000;lia) ⟨T,stk,F,rfl,rfl,h,bV _⟩;obtain⟨T1,stk1,F1,rfl,rfl,h1,hle⟩:=hI;refine uq λ Zz toG=>?_
 have few:=h1.few hS;have szn:small ((stk1.map λ e:nJ=>e.nm).map V.str).length=true:=by rw[au,au];exact aV (by lia)
 have szb:small (stk1.map λ e:nJ=>V.ref e.bn).length=true:=by rw[au];exact aV (by lia)
 have tr:=λ L=>rZ (L:=L) h1.rep.st szn
 rcases aaq stk1 with rfl|⟨ini,e,rfl⟩
 ·refine toG (.stop (σ₁:=⟨jL g S.length (some (.str x)),T1⟩) ?_ (.off rfl h1));simp only[DR,aC.bind_ok,tr,gO,pN,bD,aO]
 ·have hN:e.nm∈g.N:=h1.good.sub _ (by rw[Wo];simp);have he:=h1.rep.en e qd;have hbig:=h1.rep.big e qd;have rT:=Qg hS h1.rep.pre;have esu:=rT.suc _ hN;have szs:small ((g.su e.nm).map V.str).length=true:=by rw[au];exact aV (by have:=rT.sul e.nm;lia)
  have tr1:∀L,cL (.ref S.length) ⟨L,T1⟩=some true:=λ L=>by
   rw[tr];simp
  have itl:=λ L=>Ej (L:=L) h1.rep.is szb (v:=.ref e.bn) (by rw[aP];exact qu ..)
  have hnp:Jp (ini++[e])=Jp ini++[(e.nm,e.ps)]:=aP;have gd:=h1.good;rw[hnp]at gd hle;induction hy:(g.su e.nm)[e.ps]? with
  |some y=>
   have nx:=λ L=>aao (L:=L) he.2 he.1 esu szs (by lia) (v:=.str y) (by rw[fU,hy];rfl)
   have hps:e.ps < (g.su e.nm).length:=(aN.mp hy).1;refine toG (.brk (σ₁:=⟨jL g S.length (some (.str x)),T1⟩) (σ₂:=⟨jL g S.length (some (.str y)),T1.set e.it (.liter (g.sl e.nm) (e.ps+1))⟩) ?_ ?_ (.on (stk':=ini++[⟨e.nm,e.ps+1,e.it,e.bn⟩]) (F':=F1) (y:=y) rfl ⟨h1.rep.next,?_,?_⟩ (hsu _ hN y (bG hy)) ?_))
   ·simp only[DR,aC.bind_ok,tr1,aO]
   ·simp only[uc,mD,Bb,lG,mU,rQ,Pa,aC.bind_ok,tE,itl,dX,Ig,pN,Bool.and_self,if_true,nx,ajj,aQ,KN]
   ·rw[show Jp (ini++[(⟨e.nm,e.ps+1,e.it,e.bn⟩:nJ)])=Jp ini++[(e.nm,e.ps+1)]from aP];exact gd.next hy
   ·have:=h1.sl;rw[aq]at this ⊢;exact this
   ·rw[show Jp (ini++[(⟨e.nm,e.ps+1,e.it,e.bn⟩:nJ)])=Jp ini++[(e.nm,e.ps+1)]from aP];rw[Er,Mu]at hle ⊢;lia
  |none=>
   have hps:(g.su e.nm).length<=e.ps:=cU.mp hy;obtain⟨ep,e3⟩:=h1.rep.n2;have gp:=gd.pop hps;have hnot:e.nm∉ini.map (·.nm):=λ q=>by
    have:=(cN.mp gd.nds).2.1;rw[aP,Wo]at this;exact(cN.mp this).2.2 _ q e.nm (by simp) rfl
   have k0:=bN .any he.1 h1.rep.st nofun;have pp0:=λ L=>Wa (L:=L) k0 szn hk (v:=.str e.nm) (by rw[aP,aP];exact qu ..)
   rw[(by rw[aP,aP];exact qp ..:(((ini++[e]).map (λ e:nJ=>e.nm)).map V.str).dropLast=(ini.map λ e:nJ=>e.nm).map V.str)]at pp0;have m3:=dN (a:=S.length) (o:=O.list ((ini.map λ e:nJ=>e.nm).map V.str)) (by lia) (bN .any he.1 e3 nofun);have m1:=dN (a:=S.length) (o:=O.list ((ini.map λ e:nJ=>e.nm).map V.str)) (by simp) (bN .any he.1 h1.rep.is nofun);have hn2:(Cw (ini++[e])).length=ini.length+1:=by unfold Cw;rw[au,List.length_zipIdx,aq];rfl
   have hfl:=few.2;rw[aq]at hfl;have dd:=λ L=>aeP (L:=L) (x:=e.nm) m3 (by rw[hn2];exact aV (by simp at hfl;lia)) (by rw[Cr];simp) (by exact dh _ (by assumption))
   rw[agt hnot]at dd;have n1:=dN (a:=S.length+3) (o:=O.dict (Cw ini) (ep+1)) (by lia) m1;have mp1:=λ live args L=>I4 (cl:=cl) (live:=live) (args:=args) (L:=L) n1
   have pp1:=λ L=>Wa (L:=L) n1 szb (by lia) (v:=.ref e.bn) (by rw[aP];exact qu ..)
   have dl1:((ini++[e]).map (λ e:nJ=>V.ref e.bn)).dropLast=ini.map λ e:nJ=>V.ref e.bn:=by rw[aP];exact qp ..
   rw[dl1]at pp1;have sV:=h1.rep.pop (ep+1);generalize hT2:(((T1.set e.it .any).set S.length (.list ((ini.map λ e:nJ=>e.nm).map V.str))).set (S.length+3) (.dict (Cw ini) (ep+1))).set (S.length+1) (.list (ini.map λ e:nJ=>V.ref e.bn))=T2 at*;refine toG (.on (σ₁:=⟨jL g S.length (some (.str x)),T1⟩) (σ₂:=⟨jL g S.length (some (.str x)),T2⟩) ini.length ?_ ?_ (by rw[aq];exact Nat.lt_succ_self _) ⟨_,ini,F1++[e.nm],rfl,rfl,⟨sV,gp,?_⟩,?_⟩)
   ·simp only[DR,aC.bind_ok,tr1,aO]
   ·have hx:(("StopIteration":Str)==jl .stop&&true)=true:=by kernel_rfl
    have b1:lG cl ⟨jL g S.length (some (.str x)),T1⟩=.exc .stop ⟨jL g S.length (some (.str x)),T1.set e.it .any⟩:=by
     simp only[lG,mU,Pa,aC.bind_ok,tE,itl,dX,Ig,pN,Bool.and_self,if_true,(λ L=>aap (L:=L) he.2 he.1 esu szs (by lia) (by rw[fU,hy];rfl)),aC.bind_exc,Dm]
    have b2:pC cl ⟨jL g S.length (some (.str x)),T1.set e.it .any⟩=.ok .next ⟨jL g S.length (some (.str x)),T2⟩:=by
     simp only[pC,rR,rU,DR,Pa,Pb,aC.bind_ok,(λ live args L=>I4 (cl:=cl) (live:=live) (args:=args) (L:=L) k0),pp0,dd,aQ,mp1,pp1]
    have b3:mD cl ⟨jL g S.length (some (.str x)),T1⟩=.ok .next ⟨jL g S.length (some (.str x)),T2⟩:=by
     unfold mD Bb;rw[b1];dsimp only;rw[if_pos hx,b2];rfl
    unfold uc;rw[b3];rfl
   ·have:=h1.sl;rw[aq]at this ⊢;simp at this ⊢;lia
   ·rw[Er]at hle;lia
end
inductive FOr(body:V->St->aC Fl)(Z:aC Fl->Prop)(I:St->Prop)(v:V)(Y:St):Prop
 |on {fl:Fl}{Y':St}(hf:fl=.next\/fl=.cont) (e:body v Y=.ok fl Y') (h:I Y')
 |ret {w:V}{Y':St}(e:body v Y=.ok (.ret w) Y') (h:Z (.ok (.ret w) Y'))
inductive anb(Z:aC Fl->Prop)(I:St->Prop)(r:aC Fl):Prop
 |on {Y':St}(e:r=.ok .next Y') (h:I Y')
 |ret (h:Z r)
set_option tactic.hygienic true in
theorem agv{α:Type}{f:α->V}{ok:St->Bool}{body:V->St->aC Fl}{Z:aC Fl->Prop}(I:List α->St->Prop)(hok:∀r Y,I r Y->ok Y=true)
  (hb:∀v r Y,I (v::r) Y->FOr body Z (I r) (f v) Y) (xs:List α):∀Y,I xs Y->anb Z (I []) (qJ ok body (xs.map f) Y):=by
 induction xs with
 |nil=>exact λ Y h=>.on (if_pos (hok _ _ h)) h
 |cons v r ih=>
  intro Y h;have e:qJ ok body ((v::r).map f) Y=(body (f v) Y).bindN λ fl Y=>match fl with
    |.next|.cont=>qJ ok body (r.map f) Y
    |.brk=>.ok .brk Y
    |.ret v=>.ok (.ret v) Y:=if_pos (hok _ _ h)
  rw[e];induction hb v r Y h with
  |on h1 h2 h3=>
   rw[h2];clear h2;rcases h1 with rfl|rfl<;>exact ih _ h3
  |ret h1 h2=>rw[h1];exact .ret h2
theorem aas(su:Str->List Str)(hs:∀v,(su v).length<=1000)(seen:List Str):∀N:List Str,z9 su N seen<=1000*N.length:=by
 intro N;induction N with
 |nil=>exact dR _
 |cons v N ih=>
  have:=hs v;unfold z9 at ih ⊢;simp only[gB,aZ];split
  ·rw[cA,jD];lia
  ·exact Nat.le_add_right_of_le (by assumption)
theorem Wr{L}{S:List O}{d ep:Nat}{kvs:List (Str×V)}(e:S[d]?=some (.dict kvs ep))(hs:small kvs.length=true):fD (.ref d) ⟨L,S⟩=some (kvs.map λ p=>.str p.1):=(G7 e).trans (if_pos hs)
theorem Ws{m ep:Nat}{L L':List (Str×Option V)}{S S':List O}{kvs:List (Str×V)}(h:S[m]?=some (.dict kvs ep))(h':S'[m]?=some (.dict kvs ep)):cW (.ref m) ⟨L,S⟩ ⟨L',S'⟩=true:=Ag h h' rfl
inductive agw(S:List O)(g:G)(r:aC Fl):Prop
 |mk (p:Nat) (L:List (Str×Option V)) (T:List O) (xs:List V) (e:r=.ok (.ret (.ref p)) ⟨L,T⟩) (hp:S <+: T) (hl:T[p]?=some (.list xs)) (hx:xs≠[]) (hs:small xs.length=true) (hc:Cyc g.su g.N)
inductive ak0(S:List O)(g:G)(seen:List Str)(x:Str)(r:aC Fl):Prop
 |on {T':List O}{F' seen':List Str}{y:Str}(e:r=.ok .next ⟨jL g S.length (some (.str y)),T'⟩) (h:Cv S T' g [] seen' F' none) (hx:x∈seen') (hs:∀s∈seen,s∈seen')
 |ring (h:agw S g r)
inductive anc(S:List O)(g:G)(seen:List Str)(x:Str)(n:Nat)(Y:St):Prop
 |mk (T':List O) (stk:List nJ) (seen' F':List Str) (y:Str) (e:Y=⟨jL g S.length (some (.str y)),T'⟩) (hn:n=pot g.su g.N (Jp stk) seen') (h:Cv S T' g stk seen' F' (some y)) (hy:y∈g.N) (hx:y=x\/x∈seen') (hs:∀s∈seen,s∈seen')
inductive ane(S:List O)(g:G)(stk:List nJ)(sn F1:List Str)(y:Str)(r:aC Fl):Prop
 |on {T2:List O}{stk2:List nJ}{sn2:List Str}(e:r=.ok .next ⟨jL g S.length (some (.str y)),T2⟩) (h:Cv S T2 g stk2 sn2 F1 none) (hp:pot g.su g.N (Jp stk2) sn2=pot g.su g.N (Jp stk) sn) (hy:y∈sn2) (hs:∀s∈sn,s∈sn2)
 |ring {w:V}{Y':St}(e:r=.ok (.ret w) Y') (h:agw S g (.ok (.ret w) Y'))
section
variable {S:List O}{g:G}(hS:fM S g) (hk:8<=S.length) (hsu:∀v∈g.N,∀s∈g.su v,s∈g.N) {cl:Nat->List V->St->aC V}
include hS hk hsu
theorem agx{T1:List O}{stk:List nJ}{sn F1:List Str}{y:Str}(h1:Cv S T1 g stk sn F1 (some y))(hy:y∈g.N):ane S g stk sn F1 y (jw cl ⟨jL g S.length (some (.str y)),T1⟩):=by
 refine uq λ Zz toG=>?_
 have few:=h1.few hS;have hnm:=Wo stk;by_cases hs:y∈sn
 ·by_cases hst:y∈stk.map (·.nm)
  ·obtain⟨r,J,ys,b1,b2,b3⟩:=aeS (cl:=cl) h1.rep hs hst (by lia) (by lia);exact toG (.ring b1 ⟨r,_,_,_,rfl,kj h1.rep.pre J,b2,by simp,by rw[aq];exact aV (by show ys.length+1<=_;lia),h1.good.cyc (by rw[hnm];exact hst)⟩)
  ·have hF:y∈F1:=((h1.good.sn y).mp hs).resolve_right (by rw[hnm];exact hst);exact toG (.on (aeR (cl:=cl) h1.rep hs hst (by lia)) ⟨h1.rep,h1.good.skip hF,h1.sl⟩ rfl hs λ _ h=>h)
 ·have hst:y∉stk.map (·.nm):=λ q=>hs ((h1.good.sn y).mpr (.inr (by rw[hnm];exact q)))
  obtain⟨T2,b1,b2⟩:=aeQ (cl:=cl) h1.rep hS hk hs hy hst (by lia) (by lia);have e:Jp (stk++[(⟨y,0,T1.length,T1.length+1⟩:nJ)])=Jp stk++[(y,0)]:=aP;refine toG (.on b1 ⟨b2,by rw[e];exact h1.good.push hs hy,?_⟩ ?_ (by simp) λ s h=>cg _ h)
  ·have:=h1.sl;simp only[aq];show sn.length+1=F1.length+(stk.length+1);lia
  ·unfold pot;simp only[e,Er,Mu,Td hS.nd hy hs];lia
set_option tactic.hygienic true in
theorem aat{T:List O}{seen F:List Str}{x:Str}(h:Cv S T g [] seen F none)(hx:x∈g.N):ak0 S g seen x (yF cl ⟨jL g S.length (some (.str x)),T⟩):=by
 unfold yF;rw[if_pos rfl];refine yW (Z:=ak0 S g seen x) (anc S g seen x) (λ n Y hI=>?_) wf (pot g.su g.N [] seen) _ (by
   have:=aas g.su hS.sul seen g.N;have:=hS.len;show z9 g.su g.N seen+0 < 100000;lia) ⟨T,[],seen,F,x,rfl,rfl,⟨h.rep,⟨trivial,h.good.sn,h.good.nds,h.good.sub,h.good.topo⟩,h.sl⟩,hx,.inl rfl,λ _ h=>h⟩
 obtain⟨T1,stk,sn,F1,y,rfl,rfl,h1,hy,hyx,hsn⟩:=hI;refine uq λ Zz toG=>?_
 cases agx hS hk hsu (cl:=cl) h1 hy with
 |on b1 h2 hp hy2 hsn2=>
  rename_i T2 stk2 sn2
  have hx2:x∈sn2:=hyx.elim (λ q=>by rw[<-q];exact hy2) λ q=>hsn2 x q
  cases aar hS hk hsu (cl:=cl) (x:=y) h2 with
  |on c1 c2 c3 c4=>
   rename_i T3 stk3 F3 z
   refine toG (.on (pot g.su g.N (Jp stk3) sn2) rfl (th b1 (congrArg (λ r=>aA r λ Y=>.ok .next Y) c1)) ?_ ⟨T3,stk3,sn2,F3,z,rfl,rfl,c2,c3,.inr hx2,λ s h=>hsn2 s (hsn s h)⟩);rw[<-hp];exact Nat.add_lt_add_left c4 _
  |off c1 c2=>exact toG (.brk rfl (th b1 (congrArg (λ r=>aA r λ Y=>.ok .next Y) c1)) (.on rfl c2 hx2 λ s h=>hsn2 s (hsn s h)))
 |ring b1 hr=>exact toG (.ret rfl (congrArg (λ r=>aA r _) b1) (.ring hr))
inductive aeT(S:List O)(g:G)(rest:List Str)(Y:St):Prop
 |mk (T:List O) (seen F:List Str) (o:Option V) (e:Y=⟨jL g S.length o,T⟩) (h:Cv S T g [] seen F none) (hc:∀v∈g.N,v∈seen\/v∈rest) (hm:∀v∈rest,v∈g.N)
theorem aau(d:Nat){v:Str}{rest:List Str}{Y:St}(hI:aeT S g (v::rest) Y):FOr (λ v Y=>wi (aG d) (aX ("node":Str) v Y)) (agw S g) (aeT S g rest) (.str v) Y:=by
 obtain⟨T,seen,F,o,rfl,h,hc,hm⟩:=hI;refine uq λ Zz toG=>?_
 have few:=h.few hS;have hv:=hm v bw;have i1:=Qh (L:=jL g S.length (some (.str v))) h.rep.se (by lia) v;have hm':=λ w hw=>hm w (bM _ hw)
 have hc':∀{sn:List Str},(∀s∈seen,s∈sn)->v∈sn->∀w∈g.N,w∈sn\/w∈rest:=λ hs hv w hw=>(hc w hw).elim (λ q=>.inl (hs w q)) λ q=>(bU.mp q).elim (λ q=>.inl (by rw[q];exact hv)) .inr
 by_cases hs:v∈seen
 ·rw[decide_eq_true hs]at i1;refine toG (.on (.inr rfl) (Y':=⟨jL g S.length (some (.str v)),T⟩) ?_ ⟨T,seen,F,_,rfl,h,hc' (λ _ h=>h) hs,hm'⟩);show wi (aG d) ⟨jL g S.length (some (.str v)),T⟩=_;simp only[wi,yE,Iw,Bq,Ir,Iu,aC.bind_ok,i1,aO,if_true,U0]
 ·rw[decide_eq_false hs]at i1;have b0:yE (aG d) ⟨jL g S.length (some (.str v)),T⟩=.ok .next ⟨jL g S.length (some (.str v)),T⟩:=by
   simp only[yE,Ir,Iu,aC.bind_ok,i1,aO,aF,if_false]
  have e:wi (aG d) (aX ("node":Str) (.str v) ⟨jL g S.length o,T⟩)=aA (yF (aG d) ⟨jL g S.length (some (.str v)),T⟩) λ Y=>.ok .next Y:=congrArg (λ r=>aA r _) b0
  induction aat hS hk hsu (cl:=aG d) h hv with
  |on c1 c2 c3 c4=>exact toG (.on (.inl rfl) (e.trans (congrArg (λ r=>aA r _) c1)) ⟨_,_,_,_,rfl,c2,hc' c4 c3,hm'⟩)
  |ring hr=>
   obtain⟨p,L,T',xs,c1,c2,c3,c4,c5,c6⟩:=hr;exact toG (.ret (e.trans (congrArg (λ r=>aA r _) c1)) ⟨p,L,T',xs,rfl,c2,c3,c4,c5,c6⟩)
inductive aeU(g:G)(T:List O):V->Prop
 |none (hc:¬ Cyc g.su g.N):aeU g T .none
 |ring {p:Nat}{xs:List V}(hl:T[p]?=some (.list xs)) (hx:xs≠[]) (hs:small xs.length=true) (hc:Cyc g.su g.N):aeU g T (.ref p)
inductive ak1(S:List O)(g:G)(l:List (Str×Option V))(r:aC V):Prop
 |mk (v:V) (T:List O) (e:r=.ok v ⟨l,T⟩) (hp:S <+: T) (h:aeU g T v)
theorem aav(d:Nat)(l):ak1 S g l (aG (d+1) 127 [.ref g.i] ⟨l,S⟩):=by
 rw[fZ (L:=mQ (some (.ref g.i)) none none none none none none) (S₁:=S) (by kernel_rfl),aeh];have hns:∀L (S:List O),gq (aG d) .set [] ⟨L,S⟩=.ok (.ref S.length) ⟨L,S++[.set []]⟩:=λ L S=>rfl
 have start:∀r,aA (VD (aG d) ⟨mQ (some (.ref g.i)) none none none none none none,S⟩) (λ Y=>aA (VF (aG d) Y) λ Y=>aA (VG (aG d) Y) λ Y=>aA (VH (aG d) Y) λ Y=>aA (VJ (aG d) Y) r)=r ⟨jL g S.length none,S++([.list []]++([.list []]++([.set []]++[.dict [] 0])))⟩:=λ r=>by
  simp only[VD,VF,VG,VH,VJ,ajd,aje,ajf,ajg,ajh,aji,aC.bind_ok,hS.a_n2i,aQ,fG,hns,aq,aZ,cR,Nat.reduceAdd,aj]
 have h0:Cv S (S++([.list []]++([.list []]++([.set []]++[.dict [] 0])))) g [] [] [] none:=by
  refine⟨⟨bC ..,?_,?_,?_,⟨0,?_⟩,nofun,oR,nofun⟩,⟨trivial,λ s=>by simp[Jp],by simp[Jp],nofun,λ A f B e=>by simp at e⟩,rfl⟩<;>simp[Cw]
 unfold akN;rw[start];generalize S++([O.list []]++([O.list []]++([O.set []]++[O.dict [] 0])))=T0 at*;obtain⟨ep,ed⟩:=hS.dct;have atd:∀{T:List O},S <+: T->T[g.d]?=some (.dict (g.N.map λ v=>(v,.ref (g.at_ v))) ep):=λ p=>by obtain⟨X,rfl⟩:=p;exact aK ed
 have loop:=agv (f:=V.str) (ok:=cW (.ref g.d) ⟨jL g S.length none,T0⟩) (body:=λ v Y=>wi (aG d) (aX ("node":Str) v Y)) (Z:=agw S g) (aeT S g)
  (λ rest Y ⟨T,seen,F,o,e,h,_,_⟩=>by rw[e];exact Ws (atd h0.rep.pre) (atd h.rep.pre)) (λ v rest Y hI=>aau hS hk hsu d hI) g.N ⟨jL g S.length none,T0⟩ ⟨T0,[],[],none,rfl,h0,λ v hv=>.inr hv,λ _ h=>h⟩
 have it:=λ L=>Wr (L:=L) (atd h0.rep.pre) (by rw[au];have:=hS.len;exact aV (by lia))
 simp only[wF,Function.comp_def]at it;have e5:VL (aG d) ⟨jL g S.length none,T0⟩=jq (qJ (cW (.ref g.d) ⟨jL g S.length none,T0⟩) (λ v Y=>wi (aG d) (aX ("node":Str) v Y)) (g.N.map V.str) ⟨jL g S.length none,T0⟩) λ Y=>.ok .next Y:=by
  simp only[VL,ad0,aC.bind_ok,lV,it]
 rw[e5];refine uq λ Zz toG=>?_
 induction loop with
 |on f1 hI=>
  obtain⟨T,seen,F,o,rfl,h,hc,-⟩:=hI;rw[f1]at toG;exact toG ⟨.none,T,rfl,h.rep.pre,.none (h.good.done λ v hv=>(hc v hv).resolve_right nofun)⟩
 |ret hr=>
  obtain⟨p,L,T,xs,f1,c2,c3,c4,c5,c6⟩:=hr;rw[f1]at toG;exact toG ⟨.ref p,T,rfl,c2,.ring c3 c4 c5 c6⟩
end
theorem aaw{L}{S:List O}{d ep:Nat}{kvs:List (Str×V)}(e:S[d]?=some (.dict kvs ep)):gH .values (.ref d) [] ⟨L,S⟩=.ok (.ref S.length) ⟨L,S++[.view d]⟩:=gD e
theorem Te{cl:Nat->List V->St->aC V}{live:Bool}{args:St->aC (List V)}{n ep:Nat}{kvs:List (Str×V)}{L}{S:List O}(e:S[n]?=some (.dict kvs ep)):cZ cl live ("values":Str) args (.ref n) ⟨L,S⟩=(args ⟨L,S⟩).bind λ vs Y=>gH .values (.ref n) vs Y:=Mt (by kernel_rfl) e
theorem Wt{L}{S:List O}{n d ep:Nat}{kvs:List (Str×V)}(e:S[n]?=some (.view d))(ed:S[d]?=some (.dict kvs ep))(hs:small kvs.length=true):fD (.ref n) ⟨L,S⟩=some (kvs.map λ p=>p.2):=(G8 e ed).trans (if_pos hs)
theorem Wu{L L'}{S S':List O}{n d:Nat}{o:O}(e:S[n]?=some (.view d))(ed:S[d]?=some o)(e':S'[n]?=some (.view d))(ed':S'[d]?=some o):cW (.ref n) ⟨L,S⟩ ⟨L',S'⟩=true:=aa2 e e' rfl (ed'.trans ed.symm)
noncomputable def free(g:G)(v:Str):Bool:=decide (g.np v=0)
theorem Wv{S:List O}{g:G}(h:fM S g)(hk:8<=S.length){cl L}:kh true ("i":Str) (Pg cl) (Vv cl) (.ref S.length) ⟨L,S++[.view g.d]⟩=.ok (.ref (S.length+1)) ⟨L,S++[.view g.d]++[.list ((g.N.filter (free g)).map .str)]⟩:=by
 obtain⟨ep,ed⟩:=h.dct;have h1:=h.push [.view g.d];have ed1:=aK (J:=[O.view g.d]) ed;have ev:=cM (S:=S) (.view g.d);have hlen:=h.len;have hi:fD (.ref S.length) ⟨L,S++[.view g.d]⟩=some (g.N.map λ v=>V.ref (g.at_ v)):=by
  have:=Wt (L:=L) ev ed1 (by rw[au];exact aV (by lia));rw[wF]at this;exact this
 obtain⟨J,c1,rfl⟩:=Jd (f:=λ v=>V.ref (g.at_ v)) (x:=("i":Str)) (ifs:=Pg cl) (elt:=Vv cl) (p:=free g) (P:=λ J=>J=[]) rfl (λ a b q1 q2=>by rw[q1,q2];rfl) hi (by rw[aq];exact bT hk (d8 ..)) (aV (by lia))
  (λ L' J=>Wu ev ed1 (aK ev) (aK ed1))
  (λ v hv J=>⟨[],by
   have hg:∀S,aH ("i":Str) ⟨[(("i":Str),some (.ref (g.at_ v)))],S⟩=.ok (.ref (g.at_ v)) ⟨[(("i":Str),some (.ref (g.at_ v)))],S⟩:=λ S=>rfl
   rw[aW];unfold free;induction q:decide (g.np v=0)<;>simp only[Pg,hg,aC.bind_ok,(λ L=>(h1.push J).a_np (L:=L) hv),Qf,q,aO,bD,bH,aF,if_false,if_true],rfl⟩)
  (λ v hv J=>(h1.push J).a_node (L:=[(("i":Str),some (.ref (g.at_ v)))]) hv)
 simp only[c1,aW,aq];rfl
noncomputable def Jo(S:List O)(g:G):G:={g with rd:=some (S.length+1),rl:=g.N.filter (free g)}
set_option tactic.hygienic true in
theorem aax{S:List O}{g:G}(h:fM S g)(hk:8<=S.length)(hrd:g.rd=none)(hsu:∀v∈g.N,∀s∈g.su v,s∈g.N)(d:Nat)(l):
  ∃S',((¬ Cyc g.su g.N/\aG (d+2) 92 [.ref g.i] ⟨l,S⟩=.ok .none ⟨l,S'⟩)\/(Cyc g.su g.N/\aG (d+2) 92 [.ref g.i] ⟨l,S⟩=.exc .cyc ⟨l,S'⟩))/\fM S' (Jo S g)/\iH S g S' (Jo S g):=by
 rw[fZ (L:=Vt (some (.ref g.i)) none) (S₁:=S) (by kernel_rfl),af6];obtain⟨epd,ed⟩:=h.dct;have ard:=λ L=>h.a_rd (L:=L)
 rw[hrd,rdV]at ard;have h1:=h.push ([.view g.d]++[.list ((g.N.filter (free g)).map .str)]);rw[<-aj]at h1;have hl:(g.N.filter (free g)).length<=60:=bT (iw ..) h.len;have er:(S++[O.view g.d]++[O.list ((g.N.filter (free g)).map V.str)])[S.length+1]?=some (.list ((g.N.filter (free g)).map .str)):=by
  have:=cM (S:=S++[O.view g.d]) (.list ((g.N.filter (free g)).map .str));rw[aq]at this;exact this
 obtain⟨ep,sa⟩:=yc h1 (L:=Vt (some (.ref g.i)) none) (x:=("_ready_nodes":Str)) (v:=.ref (S.length+1)) (rd:=some (S.length+1)) (po:=g.po) (nf:=g.nf) (by kernel_rfl) (λ ep=>ajD ..);have h2:=h1.setFld (some (S.length+1)) (g.N.filter (free g)) g.po g.nf ep (λ r e=>by
  cases e;refine⟨by exact cQ (by assumption),er,λ v hv q=>?_,by lia⟩;have:=cT (h.suc v hv);lia)
 replace h2:fM _ (Jo S g):=h2;have st2:iH S g ((S++[O.view g.d]++[O.list ((g.N.filter (free g)).map V.str)]).set g.fd (O.dict (sX g.d (some (S.length+1)) g.po g.nf) ep)) (Jo S g):=by
  refine⟨λ x o e hx=>by rw[aY (show g.fd≠x from λ q=>hx (.inl q.symm))];exact aK (aK e),λ x q=>?_,by rw[dw,aq,aq];lia,rfl⟩;rcases q with q|q|q|q
  ·exact .inl (.inl q)
  ·exact .inl (.inr (.inl q))
  ·exact .inl (.inr (.inr (.inl q)))
  ·replace q:some (S.length+1)=some x:=q;exact .inr (by lia)
 generalize hS2:(S++[O.view g.d]++[O.list ((g.N.filter (free g)).map V.str)]).set g.fd (O.dict (sX g.d (some (S.length+1)) g.po g.nf) ep)=S2 at*;obtain⟨v,T,f1,f2,f3⟩:=aav h2 (bT hk st2.len) hsu d (Vt (some (.ref g.i)) none);have f1':aG (d+1) 127 [.ref g.i] ⟨Vt (some (.ref g.i)) none,S2⟩=.ok v ⟨Vt (some (.ref g.i)) none,T⟩:=f1;have me':∀args L,cZ (aG (d+1)) true ("_find_cycle":Str) args (.ref g.i) ⟨L,S2⟩=(args ⟨L,S2⟩).bind λ vs Y=>aG (d+1) 127 (.ref g.i::vs) Y:=(λ args L=>h2.meth (cl:=aG (d+1)) (args:=args) (name:=("_find_cycle":Str)) (f:=127) (L:=L) (by kernel_rfl))
 refine⟨T,?_,Qg h2 f2,st2.trans (by clear f1 f3 f1';obtain⟨X,rfl⟩:=f2;exact iH.push ..)⟩;have q:∀r,aA (ad7 (aG (d+1)) ⟨Vt (some (.ref g.i)) none,S⟩) (λ Y=>aA (ad8 (aG (d+1)) Y) λ Y=>aA (ad9 (aG (d+1)) Y) r)=r ⟨Vt (some (.ref g.i)) (some v),T⟩:=λ r=>by
  simp only[ad7,ad8,ad9,akE,akG,aC.bind_ok,ard,z8,aO,aF,if_false,aQ,h.a_n2i,(λ cl live args L=>Te (cl:=cl) (live:=live) (args:=args) (L:=L) ed),(λ L=>aaw (L:=L) ed),(λ cl L=>Wv h hk (cl:=cl) (L:=L)),sa,me',f1']
 unfold B92;rw[q];induction f3 with
 |none hc=>exact .inl ⟨hc,rfl⟩
 |ring e1 e2 e3 hc=>
  rename_i r xs
  refine .inr ⟨hc,?_⟩;have tr:∀L,cL (.ref r) ⟨L,T⟩=some true:=λ L=>by
   rw[rZ e1 e3];induction xs with
   |nil=>exact absurd rfl e2
   |cons _ _=>rfl
  simp only[ahh,aea,RP,akF,aC.bind_ok,tr,aO,if_true,Dm];rfl
inductive ak2(w:List Str)(np:Str->Int)(rl:List Str)(r:(Str->Int)×List Str):Prop
 |mk (a:∀s,r.1 s=np s - (w.count s:Nat)) (b:∀s,s∈r.2↔s∈rl\/(s∈w/\np s=(w.count s:Nat))) (c:r.2.Nodup)
theorem ak3(w:List Str):∀(np:Str->Int) (rl:List Str),(∀s∈w,((w.count s:Nat):Int)<=np s)->rl.Nodup->(∀s∈w,s∉rl)->ak2 w np rl (w.foldl oV (np,rl)):=by
 induction w with
 |nil=>exact λ np rl _ h _=>⟨λ s=>(Int.sub_zero _).symm,λ s=>⟨.inl,λ q=>q.elim id λ q=>(nomatch q.1)⟩,h⟩
 |cons x w ih=>
  intro np rl h1 h2 h3;simp only[eU];refine uq λ Zz toG=>?_
  have hx:=h1 x bw;rw[lE]at hx;have hxr:=h3 x bw;have hc:∀s,s≠x->(x::w).count s=w.count s:=λ s hs=>List.count_cons_of_ne (Ne.symm hs)
  have up:∀s∈w,((w.count s:Nat):Int)<=upd np x (np x - 1) s:=λ s hs=>by
   by_cases q:s=x
   ·rw[q,dB];clear ih h1 h3 hc;lia
   ·rw[eH _ _ q];have:=h1 s (bM _ hs);rw[hc s q]at this;exact this
  have fst:∀s,upd np x (np x - 1) s - (w.count s:Nat)=np s - ((x::w).count s:Nat):=λ s=>by
   by_cases q:s=x
   ·rw[q,dB,lE];clear ih h1 h3 hc up;lia
   ·rw[eH _ _ q,hc s q]
  by_cases hz:np x - 1=0
  ·rw[show oV (np,rl) x=(upd np x (np x - 1),rl++[x])by unfold oV;dsimp only;rw[if_pos hz]]at toG;have hw:x∉w:=λ q=>by
    have:=nj.mpr q;clear ih h1 h3 hc up fst toG;lia
   obtain⟨a,b,c⟩:=ih (upd np x (np x - 1)) (rl++[x]) up (Jl h2 hxr) λ s hs q=>by
    rcases aM.mp q with q|q
    ·exact h3 s (bM _ hs) q
    ·rw[aJ.mp q]at hs;exact hw hs
   refine toG ⟨λ s=>(a s).trans (fst s),λ s=>?_,c⟩;rw[b s];by_cases q:s=x
   ·rw[q,lE,(List.count_eq_zero.mpr hw)];exact⟨λ _=>.inr ⟨bw,Int.sub_eq_zero.mp hz⟩,λ _=>.inl qd⟩
   ·rw[eH _ _ q,hc s q,aM,aJ,bU];exact⟨λ e=>e.elim (λ e=>e.elim .inl λ e=>absurd e q) λ e=>.inr ⟨.inr e.1,e.2⟩,λ e=>e.elim (λ e=>.inl (.inl e)) λ e=>.inr ⟨e.1.resolve_left q,e.2⟩⟩
  ·rw[show oV (np,rl) x=(upd np x (np x - 1),rl)by unfold oV;dsimp only;rw[if_neg hz]]at toG;obtain⟨a,b,c⟩:=ih (upd np x (np x - 1)) rl up h2 λ s hs=>h3 s (bM _ hs)
   refine toG ⟨λ s=>(a s).trans (fst s),λ s=>?_,c⟩;rw[b s];by_cases q:s=x
   ·rw[q,dB,lE];have e:np x - 1=(w.count x:Nat)↔np x=(w.count x+1:Nat):=by clear ih h1 h3 hc up fst toG a b c;lia
    refine⟨λ e'=>e'.elim (λ e'=>absurd e' hxr) λ e'=>.inr ⟨bw,e.mp e'.2⟩,λ e'=>e'.elim (λ e'=>absurd e' hxr) λ e'=>.inr ⟨?_,e.mpr e'.2⟩⟩;exact nj.mp (by clear ih h1 h3 hc up fst toG a b c e e';lia)
   ·rw[eH _ _ q,hc s q,bU];exact⟨λ e=>e.elim .inl λ e=>.inr ⟨.inr e.1,e.2⟩,λ e=>e.elim .inl λ e=>.inr ⟨e.1.resolve_left q,e.2⟩⟩
noncomputable def ye(E:List (Str×Str))(p:Str):List Str:=(E.filter λ e=>decide (e.2=p)).map (·.1)
noncomputable def wC(E:List (Str×Str))(v:Str)(past:List Str):Nat:=(E.filter λ e=>decide (e.1=v)&&decide (e.2∉past)).length
theorem yg{E:List (Str×Str)}{s p:Str}:s∈ye E p↔(s,p)∈E:=by
 unfold ye;rw[dD];exact⟨λ⟨e,h,q⟩=>by rw[gZ,decide_eq_true_eq]at h;rw[<-q,<-h.2];exact h.1,λ h=>⟨(s,p),gZ.mpr ⟨h,by simp⟩,rfl⟩⟩
theorem uY{E:List (Str×Str)}{v:Str}{past:List Str}:wC E v past=0↔∀p,(v,p)∈E->p∈past:=by
 unfold wC;rw[List.length_eq_zero_iff,oO];refine⟨λ h p hp=>?_,λ h e he=>?_⟩
 ·have:=h _ hp;simpa using this
 ·obtain⟨a,b⟩:=e;by_cases q:a=v
  ·subst q;have:=h b he;simp[this]
  ·simp[q]
theorem Tf(a b:Str)(E:List (Str×Str))(v:Str)(past:List Str):wC ((a,b)::E) v past=(decide (a=v)&&decide (b∉past)).toNat+wC E v past:=by
 unfold wC;rw[gB];induction decide (a=v)&&decide (b∉past)with
 |false=>exact(jA _).symm
 |true=>exact Nat.add_comm _ 1
theorem aeV(a b:Str)(E:List (Str×Str))(v n:Str):(ye ((a,b)::E) n).count v=(decide (b=n)&&decide (a=v)).toNat+(ye E n).count v:=by
 unfold ye;rw[gB];induction h:decide (b=n)with
 |false=>exact(jA _).symm
 |true=>
  rw[if_pos rfl,cA,List.count_cons,Nat.add_comm];by_cases q:a=v
  ·rw[decide_eq_true q,if_pos (beq_iff_eq.mpr q)];rfl
  ·rw[decide_eq_false q,if_neg (λ z=>q (beq_iff_eq.mp z))];rfl
theorem aeW{v n:Str}{past:List Str}(hn:n∉past)(E:List (Str×Str)):wC E v (past++[n])+(ye E n).count v=wC E v past:=by
 induction E with
 |nil=>rfl
 |cons e E ih=>
  obtain⟨a,b⟩:=e;simp only[Tf,aeV,Tf,<-ih];have key:(decide (a=v)&&decide (b∉past++[n])).toNat+(decide (b=n)&&decide (a=v)).toNat=(decide (a=v)&&decide (b∉past)).toNat:=by
   clear ih;induction decide (a=v)with
   |false=>rw[oJ];rfl
   |true=>
    by_cases hb:b=n
    ·rw[decide_eq_true hb,hb,decide_eq_true hn,decide_eq_false (not_not_intro qd)];rfl
    ·rw[decide_eq_false hb,decide_eq_decide.mpr (show b∉past++[n]↔b∉past from not_congr ((aM.trans (or_congr_right aJ)).trans (or_iff_left hb)))];rfl
  simp only[<-key];exact Nat.add_add_add_comm _ _ _ _
theorem aay{E:List (Str×Str)}{v:Str}{p q:List Str}(h:∀x,x∈p↔x∈q):wC E v p=wC E v q:=by
 unfold wC;congr 1;exact oU λ e _=>by simp[h]
structure agy(E:List (Str×Str))(N past:List Str)(g:G):Prop where
 gN:g.N=N
 gs:∀p,g.su p=ye E p
 np:∀v∈N,v∉past->g.np v=wC E v past
 rl:∀v,v∈g.rl↔v∈N/\v∉past/\wC E v past=0
 nd:g.rl.Nodup
 eq:g.nf=g.po
 sub:∀v∈past,v∈N
 old:∀v∈past,wC E v past=0
structure JV(E:List (Str×Str))(N past G0 D:List Str)(g:G):Prop where
 gN:g.N=N
 gs:∀p,g.su p=ye E p
 np:∀v∈N,v∉past->v∉G0->g.np v=wC E v (past++D)
 out:∀v∈G0,v∉D->g.np v= -1
 rl:∀v,v∈g.rl↔v∈N/\v∉past/\v∉G0/\wC E v (past++D)=0
 nd:g.rl.Nodup
 eq:g.nf+G0.length=g.po+D.length
section
variable {E:List (Str×Str)}{N past:List Str}{g:G}
theorem agy.begin(h:agy E N past g):JV E N past g.rl [] {g with np:=qi g.np g.rl,rl:=[],po:=g.po+g.rl.length}:=by
 refine⟨h.gN,h.gs,λ v hv hp hr=>?_,λ v hv _=>if_pos hv,λ v=>⟨nofun,λ q=>?_⟩,oR,?_⟩
 ·rw[aW];exact(if_neg hr).trans (h.np v hv hp)
 ·rw[aW]at q;exact absurd ((h.rl v).mpr ⟨q.1,q.2.1,q.2.2.2⟩) q.2.2.1
 ·show g.nf+g.rl.length=g.po+g.rl.length+(0:Nat);rw[h.eq];simp
theorem JV.done(h0:∀v∈past,wC E v past=0)(hE:∀s p,(s,p)∈E->s∈N){G0 D:List Str}{n:Str}(hG:∀v∈G0,v∉past/\wC E v past=0)(hn:n∈G0)(hD:n∉D)(hDG:∀v∈D,v∈G0)(h:JV E N past G0 D g):JV E N past G0 (D++[n]) (S9 g n):=by
 have hnp:n∉past:=(hG n hn).1;have hw:∀s∈g.su n,s∈N/\s∉past/\s∉G0:=λ s hs=>by
  rw[h.gs,yg]at hs;have c:¬ wC E s past=0:=λ q=>hnp (uY.mp q n hs)
  exact⟨hE s n hs,λ q=>c (h0 s q),λ q=>c (hG s q).2⟩
 have hne:∀s,s∉G0->upd g.np n (-2) s=g.np s:=λ s hs=>eH _ _ λ q=>hs (q▸hn)
 have hcn:∀s,wC E s (past++(D++[n]))+(g.su n).count s=wC E s (past++D):=λ s=>by
  rw[h.gs,<-aj];exact aeW (λ q=>(aM.mp q).elim hnp hD) E
 obtain⟨a,b,c⟩:=ak3 (g.su n) (upd g.np n (-2)) g.rl
  (λ s hs=>by
   obtain⟨h1,h2,h3⟩:=hw s hs;simp only[hne s h3,h.np s h1 h2 h3];have:=hcn s;lia) h.nd
  (λ s hs q=>by
   have h1:=((h.rl s).mp q).2.2.2;have:=hcn s;have:=nj.mpr hs;lia)
 refine⟨h.gN,h.gs,λ v hv hp hg=>?_,λ v hv hd=>?_,λ v=>?_,c,?_⟩
 ·refine(a v).trans ?_;rw[hne v hg,h.np v hv hp hg];have:=hcn v;lia
 ·refine(a v).trans ?_;have h1:v≠n:=λ q=>hd (by rw[q];simp)
  have h2:(g.su n).count v=0:=List.count_eq_zero.mpr λ q=>(hw v q).2.2 hv
  rw[h2,eH _ _ h1,h.out v hv λ q=>hd (cg _ q)];rfl
 ·refine(b v).trans ⟨λ q=>?_,λ q=>?_⟩
  ·rcases q with q|⟨q1,q2⟩
   ·obtain⟨h1,h2,h3,h4⟩:=(h.rl v).mp q;exact⟨h1,h2,h3,by have:=hcn v;lia⟩
   ·obtain⟨h1,h2,h3⟩:=hw v q1;rw[hne v h3,h.np v h1 h2 h3]at q2;exact⟨h1,h2,h3,by have:=hcn v;lia⟩
  ·obtain⟨h1,h2,h3,h4⟩:=q;have hc:=hcn v;by_cases q:(g.su n).count v=0
   ·exact .inl ((h.rl v).mpr ⟨h1,h2,h3,by lia⟩)
   ·refine .inr ⟨nj.mp (by lia),?_⟩;rw[hne v h3,h.np v h1 h2 h3];lia
 ·show g.nf+1+(G0.length:Int)=g.po+((D++[n]).length:Nat);rw[aq];have:=h.eq;show g.nf+1+(G0.length:Int)=g.po+((D.length+1:Nat):Int);lia
theorem JV.finish{G0 due:List Str}(h0:∀v∈past,v∈N/\wC E v past=0)(hG:∀v∈G0,v∈N/\wC E v past=0)(hd:∀v,v∈due↔v∈G0)(h:JV E N past G0 G0 g):agy E N (past++due) g:=by
 have hc:∀v,wC E v (past++G0)=wC E v (past++due):=λ v=>aay λ x=>by rw[aM,aM,hd]
 have less:∀v,wC E v past=0->wC E v (past++due)=0:=λ v q=>uY.mpr λ p hp=>cg _ (uY.mp q p hp)
 refine⟨h.gN,h.gs,λ v hv hp=>?_,λ v=>?_,h.nd,?_,λ v hv=>?_,λ v hv=>?_⟩
 ·rw[aM,hd]at hp;rw[<-hc];exact h.np v hv (λ q=>hp (.inl q)) λ q=>hp (.inr q)
 ·rw[h.rl,hc,aM,hd];exact⟨λ q=>⟨q.1,λ w=>w.elim q.2.1 q.2.2.1,q.2.2.2⟩,λ q=>⟨q.1,λ w=>q.2.1 (.inl w),λ w=>q.2.1 (.inr w),q.2.2⟩⟩
 ·have:=h.eq;lia
 ·rcases aM.mp hv with q|q
  ·exact(h0 v q).1
  ·exact(hG v ((hd v).mp q)).1
 ·rcases aM.mp hv with q|q
  ·exact less v (h0 v q).2
  ·exact less v (hG v ((hd v).mp q)).2
end
structure uZ(S:List O)(g:G)(k nd:Nat)(M:List Str)(nl:Str->Nat)(nv:Str->List Str):Prop where
 rep:fM S g
 stat:Jh S
 k8:8<=k
 c0:S[k+0]?=some (.cell (some (.ref nd)))
 c1:∃o,S[k+1]?=some (.cell o)
 c2:∃o,S[k+2]?=some (.cell o)
 nds:∃ep,S[nd]?=some (.dict (M.map λ v=>(v,.ref (nl v))) ep)
 nls:∀v∈M,S[nl v]?=some (.list ((nv v).map .str))
 inj:∀v∈M,∀w∈M,nl v=nl w->v=w
 outd:¬ qQ g nd
 outl:∀v∈M,¬ qQ g (nl v)
 ge:8<=nd/\∀v∈M,8<=nl v
 off:∀v,v∉M->nv v=[]
 nvl:∀v,(nv v).length<=100
 mlen:M.length<=60
theorem Mv{S:List O}{g:G}(h:fM S g){a:Nat}(ha:qQ g a):8<=a/\((∃kvs ep,S[a]?=some (.dict kvs ep))\/(∃d fs,S[a]?=some (.node d fs))\/∃xs,S[a]?=some (.list xs)):=by
 rcases ha with rfl|rfl|⟨v,hv,rfl|rfl⟩|q
 ·obtain⟨ep,e⟩:=h.fld;exact⟨h.ge.1,.inl ⟨_,_,e⟩⟩
 ·obtain⟨ep,e⟩:=h.dct;exact⟨h.ge.2.1,.inl ⟨_,_,e⟩⟩
 ·exact⟨(h.ge.2.2 v hv).1,.inr (.inl ⟨_,_,h.nod v hv⟩)⟩
 ·exact⟨(h.ge.2.2 v hv).2,.inr (.inr ⟨_,h.suc v hv⟩)⟩
 ·exact⟨(h.rdy _ q).1,.inr (.inr ⟨_,(h.rdy _ q).2.1⟩)⟩
theorem vd{S:List O}{g:G}(h:fM S g){a:Nat}{o:Option V}(e:S[a]?=some (.cell o)):¬ qQ g a:=λ q=>by
 rcases(Mv h q).2 with⟨_,_,e'⟩|⟨_,_,e'⟩|⟨_,e'⟩<;>rw[e]at e'<;>cases e'
theorem XH{S:List O}{g:G}(h:fM S g){a:Nat}(ha:a < 8):¬ qQ g a:=λ q=>by have:=(Mv h q).1;lia
theorem yX{S S':List O}(h:Jh S)(k:∀a o,S[a]?=some o->a < 8->S'[a]?=some o):Jh S':=by
 refine⟨k _ _ h.1 (by simp),λ i f e=>k _ _ (h.2 i f e) ?_⟩;have:i < jk.length:=(aN.mp e).1;have:jk.length=6:=rfl;lia
section
variable {S S':List O}{g g':G}{k nd:Nat}{M:List Str}{nl:Str->Nat}{nv:Str->List Str}(h:uZ S g k nd M nl nv)
include h
theorem uZ.step(r':fM S' g')(st:iH S g S' g'):uZ S' g' k nd M nl nv:=by
 have keepc:∀{a:Nat}{o:Option V},S[a]?=some (.cell o)->S'[a]?=some (.cell o):=λ e=>st.keep _ _ e (vd h.rep e)
 obtain⟨o1,e1⟩:=h.c1;obtain⟨o2,e2⟩:=h.c2;obtain⟨ep,e3⟩:=h.nds;exact⟨r',yX h.stat λ a o e ha=>st.keep a o e (XH h.rep ha),h.k8,keepc h.c0,⟨o1,keepc e1⟩,⟨o2,keepc e2⟩,⟨ep,st.keep _ _ e3 h.outd⟩,λ v hv=>st.keep _ _ (h.nls v hv) (h.outl v hv),h.inj,oG st h.outd (cT e3),λ v hv=>oG st (h.outl v hv) (cT (h.nls v hv)),h.ge,h.off,h.nvl,h.mlen⟩
theorem uZ.push(J:List O):uZ (S++J) g k nd M nl nv:=h.step (h.rep.push J) (.push S J g)
theorem uZ.pre(p:S <+: S'):uZ S' g k nd M nl nv:=by obtain⟨X,rfl⟩:=p;exact h.push X
theorem uZ.cell{j:Nat}(hj:j=1\/j=2)(o:Option V):uZ (S.set (k+j) (.cell o)) g k nd M nl nv:=by
 obtain⟨ep,e3⟩:=h.nds;obtain⟨o1,e1⟩:=h.c1;obtain⟨o2,e2⟩:=h.c2;have ej:∃o',S[k+j]?=some (.cell o'):=by rcases hj with rfl|rfl;exact⟨o1,e1⟩;exact⟨o2,e2⟩
 obtain⟨oj,ej⟩:=ej;have hk8:=h.k8;have cs:∀i,i < 3->(∃o',S[k+i]?=some (.cell o'))->∃o',(S.set (k+j) (.cell o))[k+i]?=some (.cell o'):=λ i _ ⟨o',e⟩=>by
  by_cases q:j=i
  ·subst q;exact⟨o,pK _ e⟩
  ·exact⟨o',dN (by lia) e⟩
 refine⟨h.rep.other (vd h.rep ej) (jF ej h.rep.inst nofun) _,yX h.stat λ a o e ha=>dN (by lia) e,h.k8,dN (by lia) h.c0,cs 1 (by simp) h.c1,cs 2 (by simp) h.c2,⟨ep,bN _ ej e3 nofun⟩,λ v hv=>bN _ ej (h.nls v hv) nofun,h.inj,h.outd,h.outl,h.ge,h.off,h.nvl,h.mlen⟩
theorem uZ.need{v:Str}(hv:v∈M)(f:Str)(hl:(nv v).length < 100):uZ (S.set (nl v) (.list ((nv v++[f]).map .str))) g k nd M nl (upd nv v (nv v++[f])):=by
 have ev:=h.nls v hv;obtain⟨ep,e3⟩:=h.nds;obtain⟨o1,e1⟩:=h.c1;obtain⟨o2,e2⟩:=h.c2;have hge:=h.ge.2 v hv;refine⟨h.rep.other (h.outl v hv) (jF ev h.rep.inst nofun) _,yX h.stat λ a o e ha=>dN (by lia) e,h.k8,bN _ ev h.c0 nofun,⟨o1,bN _ ev e1 nofun⟩,⟨o2,bN _ ev e2 nofun⟩,⟨ep,bN _ ev e3 nofun⟩,λ w hw=>?_,h.inj,h.outd,h.outl,h.ge,λ w hw=>(eH _ _ (λ q=>hw (by rw[q];exact hv))).trans (h.off w hw),λ w=>?_,h.mlen⟩
 ·by_cases q:w=v
  ·clear hv hl hge;subst q;rw[dB];exact pK _ ev
  ·rw[eH _ _ q];exact dN (λ e=>q (h.inj v hv w hw e).symm) (h.nls w hw)
 ·unfold upd;split
  ·rw[aq];show(nv v).length+1<=100;assumption
  ·exact h.nvl w
theorem uZ.key{f:Str}(hf:f∉M)(hl:M.length < 60){ep:Nat}(e3:S[nd]?=some (.dict (M.map λ v=>(v,.ref (nl v))) ep)):
  uZ ((S++[O.list []]).set nd (g8 (M.map λ v=>(v,.ref (nl v))) ep f (.ref S.length))) g k nd (M++[f]) (upd nl f S.length) nv:=by
 have h1:=h.push [.list []];have e3':=aK (J:=[O.list []]) e3;have ne:∀w∈M,w≠f:=λ w hw q=>hf (by rw[<-q];exact hw)
 have hd:g8 (M.map λ v=>(v,.ref (nl v))) ep f (.ref S.length)=.dict ((M++[f]).map λ w=>(w,.ref (upd nl f S.length w))) (ep+1):=by
  delta g8 uw
  rw[Jk,decide_eq_false hf,if_neg cY,aP,m9,dB];congr 2;refine qH λ w hw=>?_
  rw[eH _ _ (ne w hw)]
 obtain⟨o1,e1⟩:=h1.c1;obtain⟨o2,e2⟩:=h1.c2;have hge:=h.ge.1;have lt:∀w∈M,nl w < S.length:=λ w hw=>cT (h.nls w hw)
 have hnd:=cT e3;rw[hd];refine⟨h1.rep.other h.outd (jF e3' h1.rep.inst nofun) _,yX h1.stat λ a o e ha=>dN (by lia) e,h.k8,bN _ e3' h1.c0 nofun,⟨o1,bN _ e3' e1 nofun⟩,⟨o2,bN _ e3' e2 nofun⟩,⟨ep+1,pK _ e3'⟩,λ w hw=>?_,λ w hw u hu q=>?_,h.outd,λ w hw=>?_,⟨hge,λ w hw=>?_⟩,λ w hw=>h.off w λ q=>hw (cg _ q),h.nvl,by rw[aq];show M.length+1<=60;assumption⟩
 ·rcases aM.mp hw with hw|hw
  ·rw[eH _ _ (ne w hw)];exact bN _ e3' (h1.nls w hw) nofun
  ·rw[aJ.mp hw,dB,h.off f hf];exact bN _ e3' (cM (S:=S) (.list [])) nofun
 ·rcases aM.mp hw with hw|hw<;>rcases aM.mp hu with hu|hu
  ·rw[eH _ _ (ne w hw),eH _ _ (ne u hu)]at q;exact h.inj w hw u hu q
  ·rw[aJ.mp hu,eH _ _ (ne w hw),dB]at q;have:=lt w hw;lia
  ·rw[aJ.mp hw,eH _ _ (ne u hu),dB]at q;have:=lt u hu;lia
  ·rw[aJ.mp hw,aJ.mp hu]
 ·rcases aM.mp hw with hw|hw
  ·rw[eH _ _ (ne w hw)];exact h.outl w hw
  ·rw[aJ.mp hw,dB];exact fX h.rep
 ·rcases aM.mp hw with hw|hw
  ·rw[eH _ _ (ne w hw)];exact h.ge.2 w hw
  ·rw[aJ.mp hw,dB];lia
end
theorem Tg{L}{S:List O}{n:Nat}{xs:List Str}(e:S[n]?=some (.list (xs.map .str)))(hs:small xs.length=true)(x:Str):XJ (.str x) (.ref n) ⟨L,S⟩=some (!decide (x∈xs)):=by
 show((S[n]?).bind (inO false x)).map _=_;rw[e];show((jP _).bind _).map _=_;rw[m5,Option.bind_some,if_pos hs,qt];rfl
noncomputable def iI(nv:Str->List Str)(past:List Str)(v:Str):Bool:=decide ((nv v).filter (λ p=>!decide (p∈past))=[])
noncomputable def pL(S:List O)(g:G)(a:Nat)(o:O):Prop:=S[a]?=some o/\¬ qQ g a
theorem pL.step{S S':List O}{g g':G}{a:Nat}{o:O}(h:pL S g a o)(st:iH S g S' g'):pL S' g' a o:=⟨st.keep _ _ h.1 h.2,oG st h.2 (cT h.1)⟩
theorem pL.push{S:List O}{g:G}{a:Nat}{o:O}(h:pL S g a o)(J:List O):pL (S++J) g a o:=h.step (.push S J g)
theorem pL.cell{S:List O}{g:G}{a k:Nat}{xs:List V}{o':Option V}(h:pL S g a (.list xs)){o:Option V}(e:S[k]?=some (.cell o')):pL (S.set k (.cell o)) g a (.list xs):=⟨bN _ e h.1 nofun,h.2⟩
section
variable {S:List O}{g:G}{k nd:Nat}{M:List Str}{nl:Str->Nat}{nv:Str->List Str}(h:uZ S g k nd M nl nv) {cl:Nat->List V->St->aC V}{L:List (Str×Option V)}{past:List Str}{pl:Nat}
include h
theorem uZ.needs{L}{v:Str}(hv:v∈M):iz (.ref nd) (.str v) ⟨L,S⟩=some (.ref (nl v)):=by
 obtain⟨ep,e⟩:=h.nds;rw[Eo e,xY,if_pos hv]
theorem aaz(hk:8<=S.length)(e1:S[k+1]?=some (.cell (some (.ref pl))))(ep:S[pl]?=some (.list (past.map .str)))(hp:past.length<=1000){v:Str}(hv:v∈M):
  ∃J,kh true ("one":Str) (yH cl k) (Eb cl k) (.ref (nl v)) ⟨L,S⟩=.ok (.ref S.length) ⟨L,S++[.list (((nv v).filter λ p=>!decide (p∈past)).map .str)]++J⟩:=by
 have hl:=h.nvl v;have en:=h.nls v hv;refine qP (x:=("one":Str)) (ifs:=yH cl k) (elt:=Eb cl k) (v:=.ref (nl v)) (xs:=nv v) (p:=λ p=>!decide (p∈past)) (jd en (by rw[au];exact aV (by lia))) hk (aV (by lia)) (λ L' J=>sG en rfl) (λ c _ J=>⟨[],?_⟩) (λ c J=>rfl);have hg:∀S,aH ("one":Str) ⟨[(("one":Str),some (.str c))],S⟩=.ok (.str c) ⟨[(("one":Str),some (.str c))],S⟩:=λ S=>rfl
 have ni:=λ L=>Tg (L:=L) (aK (J:=J) ep) (aV (by lia)) c
 rw[aW];induction q:decide (c∈past)<;>rw[q]at ni<;>simp only[yH,hg,aC.bind_ok,(λ L=>jh (L:=L) (aK (J:=J) e1)),ni,aO,bD,bH,aF,if_false,if_true]
theorem aeX(hk:8<=S.length)(e1:S[k+1]?=some (.cell (some (.ref pl))))(ep:S[pl]?=some (.list (past.map .str)))(hp:past.length<=1000){ll:Nat}{left:List Str}(el:S[ll]?=some (.list (left.map .str)))(hl:left.length<=1000)(hM:∀v∈left,v∈M):
  ∃J,kh true ("node":Str) (yI cl k) (Ec cl k) (.ref ll) ⟨L,S⟩=.ok (.ref S.length) ⟨L,S++[.list ((left.filter (iI nv past)).map .str)]++J⟩:=by
 refine qP (x:=("node":Str)) (ifs:=yI cl k) (elt:=Ec cl k) (v:=.ref ll) (xs:=left) (p:=iI nv past) (jd el (by rw[au];exact aV (by lia))) hk (aV (by lia)) (λ L' J=>sG el rfl) (λ c hc J=>?_) (λ c J=>rfl);have h1:=h.push J;have hc':=hM c hc;obtain⟨J1,j1⟩:=aaz h1 (cl:=cl) (L:=[(("node":Str),some (.str c))]) (by rw[aq];exact dh _ (by assumption)) (aK e1) (aK ep) hp hc';have hg:∀S,aH ("node":Str) ⟨[(("node":Str),some (.str c))],S⟩=.ok (.str c) ⟨[(("node":Str),some (.str c))],S⟩:=λ S=>rfl
 have hlen:=h.nvl c;have eq:=λ L=>SM (L:=L) (ys:=[]) (aK (J:=[O.list []]) (aK (J:=J1) (cM (S:=S++J) (.list (((nv c).filter λ p=>!decide (p∈past)).map .str))))) (cM _) (aV (by have:=iw (λ p=>!decide (p∈past)) (nv c);lia)) rfl
 refine⟨[.list (((nv c).filter λ p=>!decide (p∈past)).map .str)]++(J1++[.list []]),?_⟩;rw[<-aj,<-aj];unfold iI;induction q:decide ((nv c).filter (λ p=>!decide (p∈past))=[])<;>rw[q]at eq<;>simp only[yI,hg,aC.bind_ok,(λ L=>jh (L:=L) h1.c0),(λ L=>h1.needs (L:=L) hc'),dX,j1,fG,eq,aO,bD,bH,aF,if_false,if_true]
omit h in
theorem aaA(hk:8<=S.length){dl:Nat}{due:List Str}(e2:S[k+2]?=some (.cell (some (.ref dl))))(ed:S[dl]?=some (.list (due.map .str)))(hd:due.length<=1000){ll:Nat}{left:List Str}(el:S[ll]?=some (.list (left.map .str)))(hl:left.length<=1000):
  ∃J,kh true ("node":Str) (yN cl k) (Eg cl k) (.ref ll) ⟨L,S⟩=.ok (.ref S.length) ⟨L,S++[.list ((left.filter λ v=>!decide (v∈due)).map .str)]++J⟩:=by
 refine qP (x:=("node":Str)) (ifs:=yN cl k) (elt:=Eg cl k) (v:=.ref ll) (xs:=left) (p:=λ v=>!decide (v∈due)) (jd el (by rw[au];exact aV (by lia))) hk (aV (by lia)) (λ L' J=>sG el rfl) (λ c hc J=>⟨[],?_⟩) (λ c J=>rfl);have hg:∀S,aH ("node":Str) ⟨[(("node":Str),some (.str c))],S⟩=.ok (.str c) ⟨[(("node":Str),some (.str c))],S⟩:=λ S=>rfl
 have ni:=λ L=>Tg (L:=L) (aK (J:=J) ed) (aV (by lia)) c
 rw[aW];induction q:decide (c∈due)<;>rw[q]at ni<;>simp only[yN,hg,aC.bind_ok,(λ L=>jh (L:=L) (aK (J:=J) e2)),ni,aO,bD,bH,aF,if_false,if_true]
end
theorem Ti{L}{S:List O}{n ep:Nat}{kvs:List (Str×V)}(e:S[n]?=some (.dict kvs ep))(hl:kvs.length < 64):vB [.ref n] ⟨L,S⟩=.ok (.ref S.length) ⟨L,S++[.list ((gG (kvs.map (·.1))).map .str)]⟩:=by
 exact(Nf (f:=aaQ) e rfl).trans (if_pos (by rw[au];exact hl))
theorem Ww{L}{S:List O}{n:Nat}{ss:List Str}(e:S[n]?=some (.tup (ss.map .str)))(hl:ss.length < 64):vB [.ref n] ⟨L,S⟩=.ok (.ref S.length) ⟨L,S++[.list ((gG ss).map .str)]⟩:=by
 exact(Nf (f:=aaQ) (o:=.tup _) e (m5 ss)).trans (if_pos hl)
theorem wD{p:Str->Bool}{xs:List Str}(h:xs.Nodup):(xs.filter p).Nodup:=um.filter p h
structure GD(S:List O)(g:G)(k nd:Nat)(N:List Str)(nl:Str->Nat)(nv:Str->List Str)(E:List (Str×Str))(past left:List Str)(pl ll:Nat):Prop where
 lrep:uZ S g k nd N nl nv
 inv:agy E N past g
 rd:∃r,g.rd=some r
 cp:S[k+1]?=some (.cell (some (.ref pl)))
 kp:pL S g pl (.list (past.map .str))
 kl:pL S g ll (.list (left.map .str))
 lft:left=(gG N).filter λ v=>!decide (v∈past)
 cntE:past.length+left.length<=60
 hE:∀s p,(s,p)∈E->s∈N/\p∈N
 hnv:∀v p,p∈nv v↔(v,p)∈E
 noc:∀C:List Str,(∀v∈C,v∈N/\∃p∈C,v∈g.su p)->∀v∈C,v∉past
 esz:E.length<=200
section
variable {S:List O}{g:G}{k nd:Nat}{N:List Str}{nl:Str->Nat}{nv:Str->List Str}{E:List (Str×Str)}{past left:List Str}{pl ll:Nat}(h:GD S g k nd N nl nv E past left pl ll)
include h
theorem GD.k8:8<=S.length:=by have:=cT h.lrep.c0;have:=h.lrep.k8;lia
theorem GD.ndN:N.Nodup:=by have:=h.lrep.rep.nd;rw[h.inv.gN]at this;exact this
theorem GD.lenN:N.length<=60:=h.lrep.mlen
theorem GD.mem_left(v:Str):v∈left↔v∈N/\v∉past:=by
 rw[h.lft,gZ,(mK N).mem_iff];simp
theorem GD.due_iff(v:Str):iI nv past v=true↔wC E v past=0:=by
 unfold iI;rw[decide_eq_true_eq,oO,uY];exact⟨λ q p hp=>by have:=q p ((h.hnv v p).mpr hp);simpa using this,λ q p hp=>by have:=q p ((h.hnv v p).mp hp);simpa using this⟩
theorem GD.mem_due(v:Str):v∈left.filter (iI nv past)↔v∈g.rl:=by
 rw[gZ,h.mem_left,h.due_iff,h.inv.rl,and_assoc]
theorem GD.nd_left:left.Nodup:=by
 rw[h.lft];exact wD ((mK N).nodup_iff.mpr h.ndN)
theorem GD.sorted:gG g.rl=left.filter (iI nv past):=by
 refine(Aj ?_ ?_).symm
 ·exact(List.perm_ext_iff_of_nodup (wD h.nd_left) h.inv.nd).mpr h.mem_due
 ·rw[h.lft];exact um.filter _ (um.filter _ (Ai N))
theorem GD.empty:left.filter (iI nv past)=[]↔g.rl=[]:=by
 rw[<-h.sorted];constructor
 ·intro q;have:=(mK g.rl).length_eq;rw[q]at this;exact List.length_eq_zero_iff.mp this.symm
 ·intro q;rw[q];exact(mK []).eq_nil
theorem GD.stop(q:left.filter (iI nv past)=[]):left≠[]↔Cyc g.su N:=by
 have hp:∀v p,v∈g.su p↔(v,p)∈E:=λ v p=>by rw[h.inv.gs,yg]
 constructor
 ·intro hl;refine⟨left,hl,λ v hv=>?_⟩;refine⟨((h.mem_left v).mp hv).1,?_⟩;have hd:¬ wC E v past=0:=λ w=>by
   have:v∈left.filter (iI nv past):=gZ.mpr ⟨hv,(h.due_iff v).mpr w⟩;rw[q]at this;cases this
  have:¬∀p,(v,p)∈E->p∈past:=λ w=>hd (uY.mpr w)
  have:∃p,(v,p)∈E/\p∉past:=Classical.byContradiction λ w=>this λ p hp=>Classical.byContradiction λ hn=>w ⟨p,hp,hn⟩
  obtain⟨p,h1,h2⟩:=this;exact⟨p,(h.mem_left p).mpr ⟨(h.hE v p h1).2,h2⟩,(hp v p).mpr h1⟩
 ·rintro⟨C,hC,hc⟩ hl;obtain⟨c,hcC⟩:=lU C hC;have:=h.noc C hc c hcC;have:c∈left:=(h.mem_left c).mpr ⟨(hc c hcC).1,this⟩;rw[hl]at this;cases this
theorem GD.past_noc:∀C:List Str,(∀v∈C,v∈N/\∃p∈C,v∈g.su p)->∀v∈C,v∉past++left.filter (iI nv past):=λ C hc v hv q=>by
 rcases aM.mp q with q|q
 ·exact h.noc C hc v hv q
 ·have h1:=(h.due_iff v).mp (gZ.mp q).2;obtain⟨_,p,hp,hvp⟩:=hc v hv;rw[h.inv.gs,yg]at hvp;exact h.noc C hc p hp (uY.mp h1 p hvp)
theorem GD.left':left.filter (λ v=>!decide (v∈left.filter (iI nv past)))=(gG N).filter λ v=>!decide (v∈past++left.filter (iI nv past)):=by
 have:∀due:List Str,left.filter (λ v=>!decide (v∈due))=(gG N).filter λ v=>!decide (v∈past++due):=λ due=>by
  simp only[h.lft,List.filter_filter];refine oU λ v _=>?_
  by_cases a:v∈past<;>by_cases b:v∈due<;>simp[b]
 exact this _
omit h in
theorem aeY{left past:List Str}{nv:Str->List Str}:(left.filter (λ v=>!decide (v∈left.filter (iI nv past)))).length+(left.filter (iI nv past)).length=left.length:=by
 have e:left.filter (λ v=>!decide (v∈left.filter (iI nv past)))=left.filter λ v=>!iI nv past v:=oU λ v hv=>by
  induction q:iI nv past v with
  |true=>rw[decide_eq_true (gZ.mpr ⟨hv,q⟩)]
  |false=>rw[decide_eq_false (λ w=>by rw[(gZ.mp w).2]at q;contradiction)]
 rw[e];have:∀(xs:List Str) (p:Str->Bool),(xs.filter λ v=>!p v).length+(xs.filter p).length=xs.length:=by
  intro xs p;induction xs with
  |nil=>rfl
  |cons x xs ih=>induction q:p x<;>simp[q]<;>lia
 exact this left _
end
section
variable {S:List O}{g:G}{k nd:Nat}{N:List Str}{nl:Str->Nat}{nv:Str->List Str}{E:List (Str×Str)}{past left:List Str}{pl ll:Nat}(h:GD S g k nd N nl nv E past left pl ll)
include h
theorem GD.push(J:List O):GD (S++J) g k nd N nl nv E past left pl ll:=⟨h.lrep.push J,h.inv,h.rd,aK h.cp,h.kp.push J,h.kl.push J,h.lft,h.cntE,h.hE,h.hnv,h.noc,h.esz⟩
theorem GD.cell2(o:Option V):GD (S.set (k+2) (.cell o)) g k nd N nl nv E past left pl ll:=by
 obtain⟨o2,e2⟩:=h.lrep.c2;exact⟨h.lrep.cell (.inr rfl) o,h.inv,h.rd,dN (by simp) h.cp,h.kp.cell e2,h.kl.cell e2,h.lft,h.cntE,h.hE,h.hnv,h.noc,h.esz⟩
theorem r_0{L:List (Str×Option V)}(hl:cF L ("left":Str)=some (.ref ll)):
  ∃S' dl,yJ (aG 8) k ⟨L,S⟩=.ok .next ⟨L,S'⟩/\GD S' g k nd N nl nv E past left pl ll/\S'[k+2]?=some (.cell (some (.ref dl)))/\pL S' g dl (.list ((left.filter (iI nv past)).map .str)):=by
 have hc:=h.cntE;obtain⟨J,j1⟩:=aeX h.lrep (cl:=aG 8) (L:=L) h.k8 h.cp h.kp.1 (by lia) h.kl.1 (by lia) (λ v hv=>((h.mem_left v).mp hv).1);have h1:=h.push ([.list ((left.filter (iI nv past)).map .str)]++J);rw[<-aj]at h1;obtain⟨o2,e2⟩:=h1.lrep.c2;have kd:pL (S++[O.list ((left.filter (iI nv past)).map .str)]++J) g S.length (.list ((left.filter (iI nv past)).map .str)):=⟨tX _ _ _,fX h.lrep.rep⟩;refine⟨_,S.length,?_,h1.cell2 (some (.ref S.length)),pK _ e2,kd.cell e2⟩;simp only[yJ,(gL hl),aC.bind_ok,j1,((yV (L:=L) (v:=.ref S.length) e2 (by have:=h.lrep.k8;exact dh _ (by assumption))))]
end
theorem Wx(b:Bool)(Y:St):zG .IsNot (.bool b) (.bool b) Y=some false:=by
 show some (!(b==b))=_;rw[beq_self_eq_true];rfl
section
variable {S:List O}{g:G}{k nd:Nat}{N:List Str}{nl:Str->Nat}{nv:Str->List Str}{E:List (Str×Str)}{past left:List Str}{pl ll dl:Nat}(h:GD S g k nd N nl nv E past left pl ll) (hd2:S[k+2]?=some (.cell (some (.ref dl)))) (kd:pL S g dl (.list ((left.filter (iI nv past)).map .str)))
include h hd2 kd
theorem ahv:(left.filter (iI nv past)).length<=60:=by have:=h.cntE;have:=iw (iI nv past) left;lia
theorem r_1{L:List (Str×Option V)}(hs:cF L ("sorter":Str)=some (.ref g.i)):yK (aG 8) k ⟨L,S⟩=.ok .next ⟨L,S++[.list []]⟩:=by
 obtain⟨r,hr⟩:=h.rd;have ac:=FJ h.lrep.rep hr 7 L;have hdl:=ahv h hd2 kd;have e1:(decide (g.nf < g.po)||!g.rl.isEmpty)=!decide (left.filter (iI nv past)=[]):=by
  rw[decide_eq_false (by have:=h.inv.eq;lia)];congr 1;by_cases q:g.rl=[]
  ·rw[decide_eq_true (h.empty.mpr q),q];rfl
  ·rw[decide_eq_false (λ w=>q (h.empty.mp w))];induction e:g.rl with
   |nil=>exact absurd e q
   |cons _ _=>rfl
 rw[e1]at ac;simp only[yK,(gL hs),aC.bind_ok,(λ args L=>h.lrep.rep.meth (cl:=aG 8) (args:=args) (name:=("is_active":Str)) (f:=106) (L:=L) (by kernel_rfl)),ac,(λ L=>jh (L:=L) hd2),fG,(λ L=>Jf (L:=L) kd.1 (aV (by lia))),aO,Wx,aF,if_false]
end
structure Mid(S:List O)(g:G)(k nd:Nat)(N:List Str)(nl:Str->Nat)(nv:Str->List Str)(E:List (Str×Str))(past left G0 D:List Str)(pl ll dl t:Nat):Prop where
 lrep:uZ S g k nd N nl nv
 inv:JV E N past G0 D g
 rd:∃r,g.rd=some r
 cp:S[k+1]?=some (.cell (some (.ref pl)))
 cd:S[k+2]?=some (.cell (some (.ref dl)))
 kp:pL S g pl (.list (past.map .str))
 kl:pL S g ll (.list (left.map .str))
 kd:pL S g dl (.list ((left.filter (iI nv past)).map .str))
 kt:pL S g t (.tup (G0.map .str))
theorem Mid.step{S S':List O}{g g':G}{k nd:Nat}{N:List Str}{nl:Str->Nat}{nv:Str->List Str}{E:List (Str×Str)}{past left G0 D D':List Str}{pl ll dl t:Nat}(h:Mid S g k nd N nl nv E past left G0 D pl ll dl t)(r':fM S' g')(st:iH S g S' g')(i':JV E N past G0 D' g')(hr:g'.rd=g.rd):Mid S' g' k nd N nl nv E past left G0 D' pl ll dl t:=
 ⟨h.lrep.step r' st,i',by rw[hr];exact h.rd,st.keep _ _ h.cp (vd h.lrep.rep h.cp),st.keep _ _ h.cd (vd h.lrep.rep h.cd),h.kp.step st,h.kl.step st,h.kd.step st,h.kt.step st⟩
section
variable {S:List O}{g:G}{k nd:Nat}{N:List Str}{nl:Str->Nat}{nv:Str->List Str}{E:List (Str×Str)}{past left:List Str}{pl ll dl:Nat}(h:GD S g k nd N nl nv E past left pl ll) (hd2:S[k+2]?=some (.cell (some (.ref dl)))) (kd:pL S g dl (.list ((left.filter (iI nv past)).map .str)))
include h hd2 kd
theorem r_2{L:List (Str×Option V)}(hs:cF L ("sorter":Str)=some (.ref g.i)):
  ∃S' g' t,yL (aG 8) k ⟨L,S⟩=.ok .next ⟨dH L ("given":Str) (.ref t),S'⟩/\Mid S' g' k nd N nl nv E past left g.rl [] pl ll dl t/\g'.i=g.i:=by
 obtain⟨r,hr⟩:=h.rd;obtain⟨S',t,c1,c2,c3,c4,c5,c6⟩:=Wn h.lrep.rep hr (λ v hv=>by rw[h.inv.gN];exact((h.inv.rl v).mp hv).1) 7 L;refine⟨S',_,t,?_,⟨h.lrep.step c2 c3,h.inv.begin,⟨r,hr⟩,c3.keep _ _ h.cp (vd h.lrep.rep h.cp),c3.keep _ _ hd2 (vd h.lrep.rep hd2),h.kp.step c3,h.kl.step c3,kd.step c3,c4,c6⟩,rfl⟩;simp only[yL,(gL hs),aC.bind_ok,(λ args L=>h.lrep.rep.meth (cl:=aG 8) (args:=args) (name:=("get_ready":Str)) (f:=99) (L:=L) (by kernel_rfl)),c1,sL]
end
theorem Tj{L}{S:List O}{a:Nat}{xs:List Str}(ea:S[a]?=some (.list (xs.map .str)))(h1:small xs.length=true):FN (.ref a) (.ref S.length) ⟨L,S++[.list []]⟩=some (decide (xs=[])):=
 SM (ys:=[]) (aK ea) (cM _) h1 rfl
theorem is_bool(a b:Bool):Tq (.bool a) (.bool b)=some (a==b):=rfl
section
variable {S:List O}{g:G}{k nd:Nat}{N:List Str}{nl:Str->Nat}{nv:Str->List Str}{E:List (Str×Str)}{past left G0 D:List Str}{pl ll dl t:Nat}(h:Mid S g k nd N nl nv E past left G0 D pl ll dl t) {L:List (Str×Option V)}
include h
theorem Mid.push(J:List O):Mid (S++J) g k nd N nl nv E past left G0 D pl ll dl t:=h.step (h.lrep.rep.push J) (.push S J g) h.inv rfl
theorem r_3(hso:gG G0=left.filter (iI nv past))(hl:G0.length < 64)(hg:cF L ("given":Str)=some (.ref t)):∃J,yM (aG 8) k ⟨L,S⟩=.ok .next ⟨L,S++J⟩:=by
 have hlen:(gG G0).length=G0.length:=(mK G0).length_eq;refine⟨[.list ((gG G0).map .str)],?_⟩;simp only[yM,(gL hg),aC.bind_ok,(λ L=>Ww (L:=L) h.kt.1 hl),(λ L=>jh (L:=L) (aK (J:=[O.list ((gG G0).map .str)]) h.cd)),(λ L=>SN (L:=L) (cM (S:=S) (.list ((gG G0).map .str))) (aK (J:=[O.list ((gG G0).map .str)]) h.kd.1) (aV (by lia)) (by rw[<-hso];exact aV (by lia))),(decide_eq_true hso),bD,aO,aF,if_false]
theorem anf(hd:left.filter (iI nv past)≠[])(hl:(left.filter (iI nv past)).length<=60):∃J,uV (aG 8) k ⟨L,S⟩=.ok .next ⟨L,S++J⟩:=by
 refine⟨[.list []],?_⟩;simp only[uV,aC.bind_ok,(λ L=>jh (L:=L) h.cd),fG,(λ L=>Tj (L:=L) h.kd.1 (aV (by lia))),(decide_eq_false hd),aO,aF,if_false]
theorem ang(hd:left.filter (iI nv past)=[])(hl:left.length<=60){ring:Bool}(hr:cF L ("ringed":Str)=some (.bool ring))(hlf:cF L ("left":Str)=some (.ref ll))(hring:ring=true↔left≠[]):∃S',uV (aG 8) k ⟨L,S⟩=.ok (.ret (.bool true)) ⟨L,S'⟩:=by
 have e:(ring==!decide (left=[]))=true:=by
  clear hr;by_cases q:left=[]
  ·have:ring=false:=by induction ring with
    |false=>rfl
    |true=>exact absurd q (hring.mp rfl)
   rw[decide_eq_true q,this];rfl
  ·rw[decide_eq_false q,hring.mpr q];rfl
 refine⟨S++[.list []]++[.list []],?_⟩;simp only[uV,IK,Bw,(gL hr),(gL hlf),aC.bind_ok,(λ L=>jh (L:=L) h.cd),fG,(λ L=>Tj (L:=L) h.kd.1 (by rw[hd];rfl)),(decide_eq_true hd),aO,if_true,(λ L=>Jf (L:=L) (aK (J:=[O.list []]) h.kl.1) (aV (by lia))),is_bool,e,eV]
end
inductive RoI(S:List O)(i k nd:Nat)(N:List Str)(nl:Str->Nat)(nv:Str->List Str)(E:List (Str×Str))(past left G0:List Str)(pl ll dl t:Nat)(Lf:Option V->List (Str×Option V))(rest:List Str)(Y:St):Prop
 |mk (D:List Str) (S':List O) (g':G) (o:Option V) (hD:D++rest=G0) (e:Y=⟨Lf o,S'⟩) (m:Mid S' g' k nd N nl nv E past left G0 D pl ll dl t) (hi:g'.i=i) (hl:S.length<=S'.length)
inductive R5(S:List O)(i k nd:Nat)(N:List Str)(nl:Str->Nat)(nv:Str->List Str)(E:List (Str×Str))(past left G0:List Str)(pl ll dl t:Nat)(Lf:Option V->List (Str×Option V))(r:aC Fl):Prop
 |mk (S':List O) (g':G) (o:Option V) (e:r=.ok .next ⟨Lf o,S'⟩) (m:Mid S' g' k nd N nl nv E past left G0 G0 pl ll dl t) (hi:g'.i=i) (hl:S.length<=S'.length)
theorem r_5{S:List O}{g:G}{k nd:Nat}{N:List Str}{nl:Str->Nat}{nv:Str->List Str}{E:List (Str×Str)}{past left G0:List Str}{pl ll dl t:Nat}(h:Mid S g k nd N nl nv E past left G0 [] pl ll dl t){i:Nat}(hi:g.i=i)
  (hE:∀s p,(s,p)∈E->s∈N/\p∈N) (hesz:E.length<=200) (hp0:∀v∈past,wC E v past=0) (hG:∀v∈G0,v∈N/\v∉past/\wC E v past=0) (hnd:G0.Nodup)
  {Lf:Option V->List (Str×Option V)}(h1:∀o v,dH (Lf o) ("node":Str) v=Lf (some v)) (h2:∀o,cF (Lf o) ("sorter":Str)=some (.ref i)) (h3:∀v,cF (Lf (some v)) ("node":Str)=some v) (h4:∀o,cF (Lf o) ("given":Str)=some (.ref t)) (o0:Option V):
  R5 S i k nd N nl nv E past left G0 pl ll dl t Lf (Ed (aG 8) k ⟨Lf o0,S⟩):=by
 subst hi;refine uq λ Zz toG=>?_
 have hlN:N.length<=60:=h.lrep.mlen;have hG0:G0.length<=60:=by
  have:=Cu hnd (λ v hv=>(hG v hv).1);exact bT (by assumption) (by assumption)
 obtain⟨Y',f1,D,S',g',o,hD,rfl,m,hgi,hlen⟩:=mq (f:=V.str) (ok:=cW (.ref t) ⟨Lf o0,S⟩) (body:=λ v Y=>zZ (aG 8) k (aX ("node":Str) v Y))
  (RoI S g.i k nd N nl nv E past left G0 pl ll dl t Lf)
  (λ rest Y ⟨_,_,_,_,_,e,m,_,_⟩=>by rw[e];exact jZ h.kt.1 m.kt.1)
  (λ n rest Y hI=>by
   obtain⟨D,S',g',o,hD,rfl,m,hgi,hlen⟩:=hI;refine uq λ Zz toG=>?_
   have hn:n∈G0:=by rw[<-hD];exact iu _ (.head _)
   have hnD:n∉D:=λ q=>by
    rw[<-hD]at hnd;exact(cN.mp hnd).2.2 n q n (by simp) rfl
   obtain⟨r,hr⟩:=m.rd;have me:=λ args L=>m.lrep.rep.meth (cl:=aG 8) (args:=args) (name:=("is_active":Str)) (f:=106) (L:=L) (by kernel_rfl)
   have me2:=λ args L=>m.lrep.rep.meth (cl:=aG 8) (args:=args) (name:=("done":Str)) (f:=120) (L:=L) (by kernel_rfl)
   rw[hgi]at me me2;have ac:=FJ m.lrep.rep hr 7 (Lf (some (.str n)));have hlt:D.length < G0.length:=by rw[<-hD,aq,aZ];simp
   rw[decide_eq_true (by have:=m.inv.eq;lia),hgi]at ac;have ac':aG 8 106 [.ref g.i] ⟨Lf (some (.str n)),S'⟩=.ok (.bool true) ⟨Lf (some (.str n)),S'⟩:=ac;have hsuE:∀p,(g'.su p).length<=200:=λ p=>by
    rw[m.inv.gs];unfold ye;rw[au];exact bT (iw ..) hesz
   have hrlN:g'.rl.length<=60:=by
    have:=Cu m.inv.nd (λ v hv=>((m.inv.rl v).mp hv).1);exact bT (by assumption) (by assumption)
   obtain⟨S'',d1,d2,d3⟩:=aal m.lrep.rep hr (v:=n) (by rw[m.inv.gN];exact(hG n hn).1) (m.inv.out n hn hnD) (λ s hs=>by rw[m.inv.gs,yg]at hs;rw[m.inv.gN];exact(hE s n hs).1) (by have:=hsuE n;lia) 7 (Lf (some (.str n)));rw[hgi]at d1;refine toG ⟨.next,⟨Lf (some (.str n)),S''⟩,.inl rfl,?_,D++[n],S'',S9 g' n,_,by rw[<-hD,aj];rfl,rfl,m.step d2 d3 (JV.done hp0 (λ s p q=>(hE s p q).1) (λ v hv=>(hG v hv).2) hn hnD (λ v hv=>by rw[<-hD];exact cg _ hv) m.inv) rfl,d3.same.trans hgi,bT hlen d3.len⟩;rw[sL,h1];simp only[zZ,Bx,BJ,(gL (h2 (some (.str n)))),(gL (h3 (.str n))),aC.bind_ok,me,ac',dW,aO,bD,aF,if_false,aQ,me2,d1])
  G0 ⟨Lf o0,S⟩ ⟨[],S,g,o0,rfl,rfl,h,rfl,bV _⟩
 rw[aW]at hD;cases hD;refine toG ⟨S',g',o,?_,m,hgi,hlen⟩;simp only[Ed,(gL (h4 o0)),aC.bind_ok,lV,(λ L=>nD (L:=L) h.kt.1 (by rw[au];exact aV (by lia))),f1];rfl
noncomputable def FR(q:Os)(ring:Bool)(l n gv:Option V):List (Str×Option V):=FB ((((q.s18 (some (.bool ring))).s19 l).s20 n).s21 gv)
theorem alJ{S T:List O}(h:S <+: T):S.length<=T.length:=h.length_le
section
variable {S:List O}{g:G}{k nd:Nat}{N:List Str}{nl:Str->Nat}{nv:Str->List Str}{E:List (Str×Str)}{past left G0:List Str}{pl ll dl t:Nat}{L:List (Str×Option V)}
theorem anh(h:Mid S g k nd N nl nv E past left G0 G0 pl ll dl t)(hk:8<=S.length)(hl1:past.length+left.length<=60){l:Nat}(hl:l=ll)(hlf:cF L ("left":Str)=some (.ref l)):
  ∃S' pl' ll',aA (Ef (aG 8) k ⟨L,S⟩) (λ Y=>aA (Eh (aG 8) k Y) λ Y=>.ok .next Y)=.ok .next ⟨dH L ("left":Str) (.ref ll'),S'⟩/\uZ S' g k nd N nl nv/\S'[k+1]?=some (.cell (some (.ref pl')))/\pL S' g pl' (.list ((past++left.filter (iI nv past)).map .str))/\pL S' g ll' (.list ((left.filter λ v=>!decide (v∈left.filter (iI nv past))).map .str)):=by
 subst hl;have hdl:(left.filter (iI nv past)).length<=60:=by have:=iw (iI nv past) left;lia
 have cp1:=aK (J:=[O.list (past.map V.str++(left.filter (iI nv past)).map V.str)]) h.cp;have hk8:=h.lrep.k8;have pc:=λ L=>yV (L:=L) (v:=.ref S.length) cp1 (by exact cQ (by assumption))
 have l1:=(h.lrep.push [.list (past.map V.str++(left.filter (iI nv past)).map V.str)]).cell (.inl rfl) (some (.ref S.length));have c1:=pK (.cell (some (.ref S.length))) cp1;have kn:pL (S++[O.list (past.map V.str++(left.filter (iI nv past)).map V.str)]) g S.length (.list ((past++left.filter (iI nv past)).map .str)):=⟨by rw[aP];exact cM _,fX h.lrep.rep⟩;have kn1:=kn.cell (o:=some (.ref S.length)) cp1;have kl1:=(h.kl.push [.list (past.map V.str++(left.filter (iI nv past)).map V.str)]).cell (o:=some (.ref S.length)) cp1;have kd1:=(h.kd.push [.list (past.map V.str++(left.filter (iI nv past)).map V.str)]).cell (o:=some (.ref S.length)) cp1;have cd1:((S++[O.list (past.map V.str++(left.filter (iI nv past)).map V.str)]).set (k+1) (.cell (some (.ref S.length))))[k+2]?=some (.cell (some (.ref dl))):=dN (by simp) (aK h.cd);have hS1:S.length<=((S++[O.list (past.map V.str++(left.filter (iI nv past)).map V.str)]).set (k+1) (.cell (some (.ref S.length)))).length:=by rw[dw,aq];simp
 generalize(S++[O.list (past.map V.str++(left.filter (iI nv past)).map V.str)]).set (k+1) (.cell (some (.ref S.length)))=S1 at*;obtain⟨J,j1⟩:=aaA (cl:=aG 8) (L:=L) (bT hk hS1) cd1 kd1.1 (by lia) kl1.1 (by lia);refine⟨S1++[.list ((left.filter λ v=>!decide (v∈left.filter (iI nv past))).map .str)]++J,S.length,S1.length,?_,(l1.push _).push J,aK (aK c1),(kn1.push _).push J,(⟨tX _ _ _,fX l1.rep⟩)⟩;simp only[Ef,Eh,(gL hlf),aC.bind_ok,(λ L=>jh (L:=L) h.cp),(λ L=>jh (L:=L) h.cd),(λ L=>add_list (L:=L) h.kp.1 h.kd.1 (by rw[au,au];exact aV (by lia))),pc,aQ,j1,sL]
end
noncomputable def ajF(r:aC Fl):Prop:=∃L S,r=.ok (.ret (.bool true)) ⟨L,S⟩
inductive ae0(k nd:Nat)(N:List Str)(nl:Str->Nat)(nv:Str->List Str)(E:List (Str×Str))(q:Os)(i:Nat)(ring:Bool)(su:Str->List Str)(n:Nat)(Y:St):Prop
 |mk (S:List O) (g:G) (past left:List Str) (pl ll:Nat) (n' gv:Option V) (e:Y=⟨FR q ring (some (.ref ll)) n' gv,S⟩) (hn:n=left.length) (h:GD S g k nd N nl nv E past left pl ll) (hi:g.i=i) (hs:g.su=su)
inductive ajG(I:Nat->St->Prop)(n:Nat)(r:aC Fl):Prop
 |ret (h:ajF r)
 |on {Y:St}(m:Nat) (e:r=.ok .next Y) (hm:m < n) (h:I m Y)
section
variable {S:List O}{g:G}{k nd:Nat}{N:List Str}{nl:Str->Nat}{nv:Str->List Str}{E:List (Str×Str)}{past left:List Str}{pl ll:Nat}(h:GD S g k nd N nl nv E past left pl ll)
include h
theorem ak4(q:Os){i:Nat}(hi:g.i=i)(hq:q.a1=some (.ref i)){ring:Bool}(hring:ring=true↔Cyc g.su N)(n gv:Option V):
  ajG (ae0 k nd N nl nv E q i ring g.su) left.length (Py (aG 8) k ⟨FR q ring (some (.ref ll)) n gv,S⟩):=by
 refine uq λ Zz toG=>?_
 obtain⟨S1,dl,b0,h1,d1,k1⟩:=r_0 h (L:=FR q ring (some (.ref ll)) n gv) rfl;obtain⟨S3,g3,t,b2,m3,hi3⟩:=r_2 (h1.push [.list []]) (aK (J:=[O.list []]) d1) (k1.push [O.list []]) (L:=FR q ring (some (.ref ll)) n gv) (by rw[hi];exact hq);have hc:=h.cntE;obtain⟨J4,b3⟩:=r_3 m3 h.sorted (jR (bT (Cu h.inv.nd (λ v hv=>((h.inv.rl v).mp hv).1)) h.lenN) (by decide)) (L:=dH (FR q ring (some (.ref ll)) n gv) ("given":Str) (.ref t)) rfl;have m4:=m3.push J4;have start:∀r,aA (yJ (aG 8) k ⟨FR q ring (some (.ref ll)) n gv,S⟩) (λ Y=>aA (yK (aG 8) k Y) λ Y=>aA (yL (aG 8) k Y) λ Y=>aA (yM (aG 8) k Y) r)=r ⟨FR q ring (some (.ref ll)) n (some (.ref t)),S3++J4⟩:=λ r=>by
  simp only[b0,(r_1 h1 d1 k1 (L:=FR q ring (some (.ref ll)) n gv) (by rw[hi];exact hq)),b2,aQ,b3];rfl
 unfold Py at toG;simp only[start]at toG;by_cases hd:left.filter (iI nv past)=[]
 ·obtain⟨S',b4⟩:=ang m4 hd (by lia) (L:=FR q ring (some (.ref ll)) n (some (.ref t))) (ring:=ring) rfl rfl (hring.trans (h.stop hd).symm);exact toG (.ret ⟨_,S',congrArg (λ r=>aA r _) b4⟩)
 ·obtain⟨J5,b4⟩:=anf m4 hd (ahv h1 d1 k1) (L:=FR q ring (some (.ref ll)) n (some (.ref t)));have hrl:∀v∈g.rl,v∈N/\v∉past/\wC E v past=0:=λ v hv=>(h.inv.rl v).mp hv
  obtain⟨S6,g6,n6,b5,m6,hi6,len6⟩:=r_5 (m4.push J5) (hi3.trans hi) h.hE h.esz h.inv.old hrl h.inv.nd (Lf:=λ o=>FR q ring (some (.ref ll)) o (some (.ref t))) (λ _ _=>rfl) (λ _=>hq) (λ _=>rfl) (λ _=>rfl) n;obtain⟨S7,pl',ll',b7,l7,c7,kp7,kl7⟩:=anh m6 (bT m6.lrep.k8 (iQ (Nat.lt_of_succ_lt (cT m6.cp)))) hc (l:=ll) rfl (L:=FR q ring (some (.ref ll)) n6 (some (.ref t))) rfl;have hlen:=aeY (left:=left) (past:=past) (nv:=nv);have hpos:0 < (left.filter (iI nv past)).length:=List.length_pos_iff.mpr hd;have hsu:g6.su=g.su:=funext λ p=>by rw[m6.inv.gs,h.inv.gs]
  refine toG (.on (left.filter λ v=>!decide (v∈left.filter (iI nv past))).length (th b4 (th b5 b7)) (by lia)
   ⟨S7,g6,past++left.filter (iI nv past),_,pl',ll',n6,some (.ref t),rfl,rfl,⟨l7,?_,m6.rd,c7,kp7,kl7,h.left',?_,h.hE,h.hnv,?_,h.esz⟩,hi6,hsu⟩)
  ·exact JV.finish (λ v hv=>⟨h.inv.sub v hv,h.inv.old v hv⟩) (λ v hv=>⟨(hrl v hv).1,(hrl v hv).2.2⟩) h.mem_due m6.inv
  ·rw[aq];lia
  ·intro C hC v hv;exact h.past_noc C (λ w hw=>by have:=hC w hw;rw[hsu]at this;exact this) v hv
theorem ajH(q:Os){i:Nat}(hi:g.i=i)(hq:q.a1=some (.ref i)){ring:Bool}(hring:ring=true↔Cyc g.su N)(n gv:Option V):ajF (Pz (aG 8) k ⟨FR q ring (some (.ref ll)) n gv,S⟩):=by
 unfold Pz;rw[if_pos rfl];have hc:=h.cntE;refine yW (Z:=ajF) (ae0 k nd N nl nv E q i ring g.su) (λ m Y hI=>?_) wf left.length _ (by show _ < 100000;lia) ⟨S,g,past,left,pl,ll,n,gv,rfl,rfl,h,hi,rfl⟩;obtain⟨S',g',past',left',pl',ll',n',gv',rfl,rfl,h',hi',hsu'⟩:=hI;refine uq λ Zz toG=>?_
 rw[<-hsu']at toG;cases ak4 h' q hi' hq (ring:=ring) (by rw[hsu'];exact hring) n' gv' with
 |ret b=>obtain⟨L',S'',b⟩:=b;exact toG (.ret rfl b ⟨L',S'',rfl⟩)
 |on m b hlt h2=>exact toG (.on m rfl b hlt h2)
end
theorem alK(E F:List (Str×Str))(v:Str)(p:List Str):wC (E++F) v p=wC E v p+wC F v p:=by unfold wC;rw[sU,aq]
theorem ak5(E F:List (Str×Str))(p:Str):ye (E++F) p=ye E p++ye F p:=by unfold ye;rw[sU,aP]
structure Aa(S:List O)(g:G)(k nd:Nat)(N M:List Str)(nl:Str->Nat)(nv:Str->List Str)(E:List (Str×Str)):Prop where
 lrep:uZ S g k nd M nl nv
 gN:g.N=N
 rd:g.rd=none
 gs:∀p,g.su p=ye E p
 gp:∀v,g.np v=wC E v []
 po:g.po=0
 nf:g.nf=0
section
variable {S:List O}{g:G}{k nd:Nat}{N M:List Str}{nl:Str->Nat}{nv:Str->List Str}{E:List (Str×Str)}(h:Aa S g k nd N M nl nv E)
include h
theorem Aa.push(J:List O):Aa (S++J) g k nd N M nl nv E:=⟨h.lrep.push J,h.gN,h.rd,h.gs,h.gp,h.po,h.nf⟩
theorem Aa.k8:8<=S.length:=by have:=cT h.lrep.c0;have:=h.lrep.k8;lia
theorem Aa.su_len(hE:E.length<=100)(p:Str):(g.su p).length<=100:=by
 rw[h.gs];unfold ye;rw[au];exact bT (iw ..) hE
theorem Aa.add1(x:Str)(hN:N.length < 60)(l):∃S' g',aG 8 87 [.ref g.i,.str x] ⟨l,S⟩=.ok .none ⟨l,S'⟩/\Aa S' g' k nd (lK N x) M nl nv E/\iH S g S' g':=by
 obtain⟨S',g',c,a⟩:=Mine.add1 h.lrep.rep 4 l x h.rd (by rw[h.gN];exact hN) h.k8;exact⟨S',g',c,⟨h.lrep.step a.rep a.step,by rw[a.N,h.gN],by rw[a.rd,h.rd],λ p=>by rw[a.su,h.gs],λ v=>by rw[a.np,h.gp],by rw[a.po,h.po],by rw[a.nf,h.nf]⟩,a.step⟩
theorem Aa.add2(x y:Str)(hN:N.length < 59)(hE:E.length<=100)(l):∃S' g',aG 8 87 [.ref g.i,.str x,.str y] ⟨l,S⟩=.ok .none ⟨l,S'⟩/\Aa S' g' k nd (lK (lK N x) y) M nl nv (E++[(x,y)])/\iH S g S' g':=by
 obtain⟨S',g',c,a⟩:=Mine.add2 h.lrep.rep 4 l x y h.rd (by rw[h.gN];exact hN) h.k8 (by have:=h.su_len hE y;lia);refine⟨S',g',c,⟨h.lrep.step a.rep a.step,by rw[a.N,h.gN],by rw[a.rd,h.rd],λ p=>?_,λ v=>?_,by rw[a.po,h.po],by rw[a.nf,h.nf]⟩,a.step⟩
 ·rw[a.su];clear c a;by_cases q:p=y
  ·subst q;rw[dB,h.gs];simp[ye]
  ·rw[eH _ _ q,h.gs];simp[ye,Ne.symm q]
 ·rw[a.np];clear c a;by_cases q:v=x
  ·subst q;rw[dB,h.gp];simp[wC]
  ·rw[eH _ _ q,h.gp];simp[wC,Ne.symm q]
theorem Aa.need{v:Str}(hv:v∈M)(f:Str)(hl:(nv v).length < 100):Aa (S.set (nl v) (.list ((nv v++[f]).map .str))) g k nd N M nl (upd nv v (nv v++[f])) E:=⟨h.lrep.need hv f hl,h.gN,h.rd,h.gs,h.gp,h.po,h.nf⟩
theorem Aa.key{f:Str}(hf:f∉M)(hl:M.length < 60){ep:Nat}(e3:S[nd]?=some (.dict (M.map λ v=>(v,.ref (nl v))) ep)):
  Aa ((S++[O.list []]).set nd (g8 (M.map λ v=>(v,.ref (nl v))) ep f (.ref S.length))) g k nd N (M++[f]) (upd nl f S.length) nv E:=⟨h.lrep.key hf hl e3,h.gN,h.rd,h.gs,h.gp,h.po,h.nf⟩
theorem Aa.meth{args:St->aC (List V)}{L}:cZ (aG 8) true ("add":Str) args (.ref g.i) ⟨L,S⟩=(args ⟨L,S⟩).bind λ vs Y=>aG 8 87 (.ref g.i::vs) Y:=h.lrep.rep.meth (by kernel_rfl)
end
section
variable {S:List O}{g:G}{k nd:Nat}{M:List Str}{nl:Str->Nat}{nv:Str->List Str}{E:List (Str×Str)}
theorem ae1:∀own∈jk,gh own:=λ own h=>by have:=z7 own h;unfold gh;lia
noncomputable def Gh(S:List O)(g:G)(M:List Str)(nl:Str->Nat)(a:Nat)(xs:List V):Prop:=pL S g a (.list xs)/\∀v∈M,nl v≠a
inductive ak6(S:List O)(g:G)(k nd:Nat)(M:List Str)(nl:Str->Nat)(nv:Str->List Str)(E:List (Str×Str))(L:List (Str×Option V))(x:Str)(r:aC Fl):Prop
 |mk (S':List O) (g':G) (nl':Str->Nat) (e:r=.ok .next ⟨L,S'⟩) (b:Aa S' g' k nd (M++[x]) (M++[x]) nl' nv E) (hi:g'.i=g.i) (fr:∀a xs,Gh S g M nl a xs->Gh S' g' (M++[x]) nl' a xs)
theorem aaB(h:Aa S g k nd M M nl nv E)(hM:M.length < 59){own:List Str}(ho:own∈jk){w:Nat}(hw:S[w]?=some (.list (own.map .str)))(hx:R own∉M){L:List (Str×Option V)}(hp:cF L ("parts":Str)=some (.ref w))(hs:cF L ("sorter":Str)=some (.ref g.i)):
  ak6 S g k nd M nl nv E L (R own) (Br (aG 8) k ⟨L,S⟩):=by
 have hf:=ae1 own ho;obtain⟨ep,e3⟩:=h.lrep.nds;have h1:=h.key hx (by lia) e3;have fr1:∀a xs,Gh S g M nl a xs->pL ((S++[O.list []]).set nd (g8 (M.map λ v=>(v,.ref (nl v))) ep (R own) (.ref S.length))) g a (.list xs):=λ a xs f=>⟨bN _ (aK (J:=[O.list []]) e3) (aK f.1.1) nofun,f.1.2⟩
 obtain⟨S2,g2,a1,b2,i2⟩:=h1.add1 (R own) (by lia) L;have ea:lK M (R own)=M++[R own]:=if_neg hx;rw[ea]at b2;refine⟨S2,g2,_,?_,b2,i2.same,λ a xs f=>⟨(fr1 a xs f).step i2,λ v hv=>?_⟩⟩;rotate_left
 ·have:=cT f.1.1;rcases aM.mp hv with hv|hv
  ·rw[eH _ _ (λ q=>hx (by rw[<-q];exact hv))];exact f.2 v hv
  ·rw[aJ.mp hv,dB];exact gb (by assumption)
 simp only[Br,Lx,Ly,(gL hp),(gL hs),aC.bind_ok,fG,(λ L=>jh (L:=L) (aK (J:=[O.list []]) h.lrep.c0)),(λ L=>qZ 7 L _ (aK hw) hf:∀L,aG 8 304 [.ref w] ⟨L,S++[.list []]⟩=.ok (.str (R own)) ⟨L,S++[.list []]⟩),(λ L=>qT (L:=L) (aK (J:=[O.list []]) e3) (by rw[au];exact aV (by lia)) h.lrep.ge.1 (R own) (.ref S.length)),aQ,(λ args=>h1.meth (args:=args) (L:=L)),(λ L=>qZ 7 L _ (bN _ (aK e3) (aK hw) nofun:((S++[O.list []]).set nd (g8 (M.map λ v=>(v,.ref (nl v))) ep (R own) (.ref S.length)))[w]?=some (.list (own.map .str))) hf),a1]
structure TF(i:Nat)(n:Int)(x y:Str)(Lf:Option V->List (Str×Option V)):Prop where
 h1:∀o v,dH (Lf o) ("turn":Str) v=Lf (some v)
 hn:∀o,cF (Lf o) ("number":Str)=some (.int n)
 hs:∀o,cF (Lf o) ("sorter":Str)=some (.ref i)
 hh:∀o,cF (Lf o) ("holder":Str)=some (.str x)
 hf:∀o,cF (Lf o) ("found":Str)=some (.str y)
variable {n:Int}{x y:Str}{Lf:Option V->List (Str×Option V)}{i:Nat}{N:List Str}{SA:List O}{gE:G}
inductive ak7(S:List O)(g:G)(k nd:Nat)(N M:List Str)(nl:Str->Nat)(nv:Str->List Str)(E:List (Str×Str))(L:List (Str×Option V))(r:aC Fl):Prop
 |mk (S':List O) (g':G) (e:r=.ok .next ⟨L,S'⟩) (b:Aa S' g' k nd N M nl nv E) (st:iH S g S' g')
theorem aaC(T:TF g.i n x y Lf)(v:V)(b:Aa S g k nd N M nl nv E)(hN:N.length < 59)(hE:E.length<=100)(hxN:x∈N):ak7 S g k nd (lK N y) M nl nv (E++[(x,y)]) (Lf (some v)) (jM (aG 8) k ⟨Lf (some v),S⟩):=by
 obtain⟨S',g'',c,b',i'⟩:=b.add2 x y hN hE (Lf (some v));rw[show lK N x=N from if_pos hxN]at b';refine⟨S',g'',?_,b',i'⟩;simp only[jM,zA,(gL (T.hs (some v))),(gL (T.hh (some v))),(gL (T.hf (some v))),aC.bind_ok,(λ args=>b.meth (args:=args) (L:=Lf (some v))),c,aQ]
theorem agz(hM:M.length < 58):(lK M y).length < 59:=by
 unfold lK;by_cases q:y∈M
 ·rw[if_pos q];exact cQ (by assumption)
 ·rw[if_neg q,aq];exact Nat.succ_lt_succ hM
inductive ae2(S:List O)(g:G)(k nd:Nat)(M:List Str)(nl:Str->Nat)(nv:Str->List Str)(E:List (Str×Str))(x y:Str)(Lf:Option V->List (Str×Option V))(j a:Nat)(r:List Nat)(Y:St):Prop
 |mk (S':List O) (g':G) (N':List Str) (F:List (Str×Str)) (o':Option V) (e:Y=⟨Lf o',S'⟩) (b:Aa S' g' k nd N' M nl nv (E++F)) (hi:g'.i=g.i) (hN:F=[]/\N'=M\/F≠[]/\N'=lK M y) (hF:∀e∈F,e=(x,y)) (hl:F.length+r.length=j) (kp:pL S' g' a (.rng j)) (st:iH S g S' g')
theorem aaD(hM:M.length < 58)(hE:E.length<=90)(hx:x∈M)(T:TF g.i n x y Lf){j a c:Nat}(hj:j<=2){r:List Nat}{Y:St}(I:ae2 S g k nd M nl nv E x y Lf j a (c::r) Y):
  ∃Y',jM (aG 8) k (aX ("turn":Str) (.int (c:Int)) Y)=.ok .next Y'/\ae2 S g k nd M nl nv E x y Lf j a r Y':=by
 obtain⟨S',g',N',F,o',rfl,b,hi,hNF,hF,hl,kp,st⟩:=I;simp only[aZ]at hl;have hN':N'.length < 59/\x∈N'/\lK N' y=lK M y:=by
  rcases hNF with⟨-,q⟩|⟨-,q⟩<;>rw[q]
  ·exact⟨by exact cQ (by assumption),hx,rfl⟩
  ·exact⟨agz hM,oF.mpr (.inl hx),if_pos (oF.mpr (.inr rfl))⟩
 obtain⟨S2,g2,c2,b2,i2⟩:=aaC (hi.symm▸T) (.int (c:Int)) b hN'.1 (by rw[aq];lia) hN'.2.1;rw[hN'.2.2,aj]at b2;refine⟨⟨Lf (some (.int (c:Int))),S2⟩,by rw[sL,T.h1];exact c2,S2,g2,_,F++[(x,y)],_,rfl,b2,i2.same.trans hi,.inr ⟨by simp,rfl⟩,λ e he=>?_,by rw[aq];show F.length+1+r.length=j;lia,kp.step i2,st.trans i2⟩;rcases aM.mp he with he|he
 ·exact hF e he
 ·exact aJ.mp he
inductive ahw(S:List O)(g:G)(k nd:Nat)(M:List Str)(nl:Str->Nat)(nv:Str->List Str)(E:List (Str×Str))(x y:Str)(Lf:Option V->List (Str×Option V))(r:aC Fl):Prop
 |mk (S':List O) (g':G) (o':Option V) (F:List (Str×Str)) (e:r=.ok .next ⟨Lf o',S'⟩) (b:Aa S' g' k nd (lK M y) M nl nv (E++F)) (hi:g'.i=g.i) (hF:F≠[]) (hF2:∀e∈F,e=(x,y)) (hF3:F.length<=2) (st:iH S g S' g')
theorem Mw(h:Aa S g k nd M M nl nv E)(hM:M.length < 58)(hE:E.length<=90)(hx:x∈M)(T:TF g.i n x y Lf)(o:Option V){j:Nat}(h0:0 < j)(hj:j<=2):
  ahw S g k nd M nl nv E x y Lf (lV (λ v Y=>jM (aG 8) k (aX ("turn":Str) v Y)) (λ Y=>aC.ok .next Y) (.ref S.length) ⟨Lf o,S++[.rng j]⟩):=by
 have er:=cM (S:=S) (.rng j);obtain⟨Y',f1,S',g',N',F,o',rfl,b,hi,hNF,hF,hF2,hrg,hst⟩:=mq (f:=λ k:Nat=>V.int (k:Int)) (ok:=cW (.ref S.length) ⟨Lf o,S++[.rng j]⟩) (body:=λ v Y=>jM (aG 8) k (aX ("turn":Str) v Y))
  (ae2 S g k nd M nl nv E x y Lf j S.length) (λ r Y I=>by obtain⟨S',g',N',F,o',rfl,b,hi,hNF,hF,hF2,e,hst⟩:=I;exact Mr er e.1)
  (λ c r Y I=>let ⟨Y',e,I'⟩:=aaD hM hE hx T hj I;⟨.next,Y',.inl rfl,e,I'⟩)
  (gj j) ⟨Lf o,S++[.rng j]⟩ ⟨S++[.rng j],g,M,[],o,rfl,by rw[aW];exact h.push _,rfl,.inl ⟨rfl,rfl⟩,nofun,by simp,⟨er,fX h.lrep.rep⟩,.push S _ g⟩
 have hl:F.length+0=j:=hF2;have hFn:F≠[]:=λ q=>by rw[q]at hl;simp at hl;lia
 obtain rfl:N'=lK M y:=(hNF.resolve_left λ q=>hFn q.1).2;refine⟨S',g',o',F,?_,b,hi,hFn,hF,by lia,hst⟩;unfold lV;rw[(Ms (L:=Lf o) er)];dsimp only;rw[f1];rfl
theorem ae3(h:Aa S g k nd M M nl nv E)(hM:M.length < 58)(hE:E.length<=90)(hx:x∈M)(T:TF g.i n x y Lf)(o:Option V):ahw S g k nd M nl nv E x y Lf (kZ (aG 8) k ⟨Lf o,S⟩):=by
 have gn:=gL (T.hn o);by_cases hneg:n < 0
 ·have d:=decide_eq_true hneg;have rg:CK [.int 2] ⟨Lf o,S⟩=.ok (.ref S.length) ⟨Lf o,S++[.rng 2]⟩:=Ji (n:=2) (by simp) (Lf o) S;have e:kZ (aG 8) k ⟨Lf o,S⟩=lV (λ v Y=>jM (aG 8) k (aX ("turn":Str) v Y)) (λ Y=>aC.ok .next Y) (.ref S.length) ⟨Lf o,S++[.rng 2]⟩:=by simp only[kZ,gn,aC.bind_ok,lt_int,d,aO,if_true,rg]
  rw[e];exact Mw h hM hE hx T o (j:=2) (by simp) (by simp)
 ·have d:=decide_eq_false hneg;have rg:CK [.int 1] ⟨Lf o,S⟩=.ok (.ref S.length) ⟨Lf o,S++[.rng 1]⟩:=Ji (n:=1) (by simp) (Lf o) S;have e:kZ (aG 8) k ⟨Lf o,S⟩=lV (λ v Y=>jM (aG 8) k (aX ("turn":Str) v Y)) (λ Y=>aC.ok .next Y) (.ref S.length) ⟨Lf o,S++[.rng 1]⟩:=by simp only[kZ,gn,aC.bind_ok,lt_int,d,aO,if_false,aF,rg]
  rw[e];exact Mw h hM hE hx T o (j:=1) (by simp) (by simp)
theorem aaE(b:Aa S g k nd N M nl nv E)(hx:x∈M)(hl:(nv x).length < 90)(T:TF i n x y Lf)(o:Option V):rW (aG 8) k ⟨Lf o,S⟩=.ok .next ⟨Lf o,S.set (nl x) (.list ((nv x++[y]).map .str))⟩:=by
 have ex:=b.lrep.nls x hx;simp only[rW,(gL (T.hh o)),(gL (T.hf o)),aC.bind_ok,(λ L=>jh (L:=L) b.lrep.c0),(λ L=>b.lrep.needs (L:=L) hx),dX,(λ live args L=>jN (cl:=aG 8) (live:=live) (args:=args) (L:=L) ex),(λ L=>nC (L:=L) ex (by rw[au];exact aV (by lia)) (b.lrep.ge.2 x hx) (.str y)),aP,cA,gO]
inductive ani(S:List O)(g:G)(k nd:Nat)(N M:List Str)(nl:Str->Nat)(nv:Str->List Str)(E:List (Str×Str))(y:Str)(L:List (Str×Option V))(r:aC Fl):Prop
 |mk (S':List O) (nl':Str->Nat) (e:r=.ok .next ⟨L,S'⟩) (b:Aa S' g k nd N (lK M y) nl' nv E) (fr:∀a xs,Gh S g M nl a xs->Gh S' g (lK M y) nl' a xs)
theorem ae4(b:Aa S g k nd N M nl nv E)(hM:M.length < 58)(T:TF i n x y Lf)(o:Option V):ani S g k nd N M nl nv E y (Lf o) (aA (pJ (aG 8) k ⟨Lf o,S⟩) λ Y=>.ok .next Y):=by
 have gf:=gL (T.hf o);obtain⟨ep,e3⟩:=b.lrep.nds;have gc:=λ L=>jh (L:=L) b.lrep.c0
 have ni:∀L,XJ (.str y) (.ref nd) ⟨L,S⟩=some (!decide (y∈M)):=λ L=>by
  show((S[nd]?).bind (inO false y)).map _=_;rw[e3,<-Jk];rfl
 by_cases hy:y∈M
 ·have ea:lK M y=M:=if_pos hy;have d:=decide_eq_true hy;refine⟨S,nl,?_,by rw[ea];exact b,by rw[ea];exact λ _ _ f=>f⟩;simp only[pJ,gf,aC.bind_ok,gc,ni,d,bD,aO,aF,if_false,aQ]
 ·have ea:lK M y=M++[y]:=if_neg hy;have si:=λ L=>qT (L:=L) (aK (J:=[O.list []]) e3) (by rw[au];exact aV (by lia)) b.lrep.ge.1 y (.ref S.length)
  refine⟨_,_,?_,by rw[ea];exact b.key hy (by lia) e3,λ a xs f=>⟨⟨bN _ (aK (J:=[O.list []]) e3) (aK f.1.1) nofun,f.1.2⟩,λ v hv=>?_⟩⟩
  ·simp only[pJ,Ft,zB,gf,aC.bind_ok,gc,(λ L=>jh (L:=L) (aK (J:=[O.list []]) b.lrep.c0)),ni,(decide_eq_false hy),bH,aO,if_true,fG,si,aQ]
  ·rw[ea]at hv;have:=cT f.1.1;rcases aM.mp hv with hv|hv
   ·rw[eH _ _ (λ q=>hy (by rw[<-q];exact hv))];exact f.2 v hv
   ·rw[aJ.mp hv,dB];exact gb (by assumption)
inductive ak8(S:List O)(g:G)(k nd:Nat)(M:List Str)(nl:Str->Nat)(nv:Str->List Str)(E:List (Str×Str))(x y:Str)(Lf:Option V->List (Str×Option V))(r:aC Fl):Prop
 |mk (S':List O) (g':G) (nl':Str->Nat) (o':Option V) (F:List (Str×Str)) (e:r=.ok .next ⟨Lf o',S'⟩) (b:Aa S' g' k nd (lK M y) (lK M y) nl' (upd nv x (nv x++[y])) (E++F)) (hi:g'.i=g.i) (hF:F≠[]) (hF2:∀e∈F,e=(x,y)) (hF3:F.length<=2) (fr:∀a xs,Gh S g M nl a xs->Gh S' g' (lK M y) nl' a xs)
theorem aaF(h:Aa S g k nd M M nl nv E)(hM:M.length < 58)(hE:E.length<=90)(hnv:∀v,(nv v).length < 90)(hx:x∈M)(T:TF g.i n x y Lf)(o:Option V):
  ak8 S g k nd M nl nv E x y Lf (aA (kZ (aG 8) k ⟨Lf o,S⟩) (λ Y=>aA (rW (aG 8) k Y) λ Y=>aA (pJ (aG 8) k Y) λ Y=>.ok .next Y)):=by
 obtain⟨S1,g1,o1,F,b19,b1,i1,hF,hF2,hF3,st⟩:=ae3 h hM hE hx T o;obtain⟨S3,nl',e3,b3,fr⟩:=ae4 (b1.need hx y (by have:=hnv x;lia)) hM T o1;simp only[b19,aQ,aaE b1 hx (hnv x) T o1];exact⟨S3,g1,nl',o1,F,e3,b3,i1,hF,hF2,hF3,λ a xs f=>fr a xs ⟨⟨dN (f.2 x hx) (f.1.step st).1,(f.1.step st).2⟩,f.2⟩⟩
end
structure Bd(S:List O)(g:G)(k nd:Nat)(M:List Str)(nl:Str->Nat)(nv:Str->List Str)(E:List (Str×Str))(c:Nat):Prop where
 b:Aa S g k nd M M nl nv E
 all:∀own∈jk,R own∈M
 mlen:M.length<=6+c
 elen:E.length<=2*c
 nlen:∀v,(nv v).length<=c
 hE:∀s p,(s,p)∈E->s∈M/\p∈M
 hnv:∀v p,p∈nv v↔(v,p)∈E
theorem ae5(M:List Str)(y:Str):(lK M y).length<=M.length+1:=by
 unfold lK;by_cases q:y∈M
 ·rw[if_pos q];exact Nat.le_succ _
 ·rw[if_neg q,aq];exact bV _
theorem Bd.told{S S':List O}{g g':G}{k nd c:Nat}{M:List Str}{nl nl':Str->Nat}{nv:Str->List Str}{E F:List (Str×Str)}{x y:Str}(h:Bd S g k nd M nl nv E c)(hx:x∈M)(t:Aa S' g' k nd (lK M y) (lK M y) nl' (upd nv x (nv x++[y])) (E++F))(hF:F≠[])(hF2:∀e∈F,e=(x,y))(hF3:F.length<=2):
  Bd S' g' k nd (lK M y) nl' (upd nv x (nv x++[y])) (E++F) (c+1):=by
 refine⟨t,λ own ho=>oF.mpr (.inl (h.all own ho)),bT (ae5 M y) (pP h.mlen),by have:=h.elen;rw[aq];lia,λ v=>?_,λ s p hsp=>?_,λ v p=>?_⟩
 ·have:=h.nlen v;unfold upd;clear hx t hF2;by_cases q:v=x
  ·subst q;rw[if_pos rfl,aq];exact pP this
  ·rw[if_neg q];exact cQ this
 ·rcases aM.mp hsp with q|q
  ·exact⟨oF.mpr (.inl (h.hE s p q).1),oF.mpr (.inl (h.hE s p q).2)⟩
  ·obtain⟨rfl,rfl⟩:=Prod.mk.inj (hF2 _ q);exact⟨oF.mpr (.inl hx),oF.mpr (.inr rfl)⟩
 ·have hF:(v,p)∈F↔v=x/\p=y:=by
   refine⟨λ q=>Prod.mk.inj (hF2 _ q),λ q=>?_⟩;obtain⟨e,he⟩:=lU F hF;rw[q.1,q.2,<-hF2 e he];exact he
  rw[aM,<-h.hnv,hF];clear hx t hF2;clear hF;by_cases q:v=x
  ·subst q;rw[dB,aM,aJ];exact⟨λ e=>e.imp id λ e=>⟨rfl,e⟩,λ e=>e.imp id λ e=>e.2⟩
  ·rw[eH _ _ q];exact⟨.inl,λ e=>e.elim id λ e=>absurd e.1 q⟩
inductive anj(S:List O)(g:G)(k nd:Nat)(M:List Str)(nl:Str->Nat)(c:Nat)(q:Os)(r:aC Fl):Prop
 |mk (S':List O) (g':G) (M':List Str) (nl':Str->Nat) (nv':Str->List Str) (E':List (Str×Str)) (q':Os) (e:r=.ok .next ⟨FB q',S'⟩) (b:Bd S' g' k nd M' nl' nv' E' (c+1)) (hi:g'.i=g.i) (s:q.Same q') (fr:∀a xs,Gh S g M nl a xs->Gh S' g' M' nl' a xs)
theorem Tn{S:List O}{g:G}{k nd:Nat}{M:List Str}{nl:Str->Nat}{nv:Str->List Str}{E:List (Str×Str)}{c:Nat}(h:Bd S g k nd M nl nv E c)(hc:c<=20){n:Int}{q:Os}(hq1:q.a1=some (.ref g.i))(hq3:q.a3=some (.int n)):
  anj S g k nd M nl c q (Bu (aG 8) k ⟨FB q,S⟩):=by
 obtain⟨J,q',hp,qs,q13,q15⟩:=Z9 (m:=n.natAbs) (q:=q) rfl hq3 (k:=k) h.b.k8 h.b.lrep.stat (λ Y=>aA (kZ (aG 8) k Y) λ Y=>aA (rW (aG 8) k Y) λ Y=>aA (pJ (aG 8) k Y) λ Y=>.ok .next Y);have hx:=h.all _ (Qd n.natAbs).hown;have hml:=h.mlen;have hel:=h.elen;obtain⟨S',g',nl',o',F,t1,t2,t3,t4,t5,t6,t7⟩:=aaF (h.b.push J) (by lia) (by lia) (λ v=>by have:=h.nlen v;lia) hx
  (Lf:=λ o=>FB (q'.s10 o)) ⟨λ _ _=>rfl,λ _=>qs.e3.trans hq3,λ _=>qs.e1.trans hq1,λ _=>q13,λ _=>q15⟩ q'.a10
 exact⟨S',g',_,nl',_,_,q'.s10 o',hp.trans t1,h.told hx t2 t4 t5 t6,t3,⟨qs.e0,qs.e1,qs.e3⟩,λ a xs f=>t7 a xs ⟨f.1.push J,f.2⟩⟩
noncomputable def Tp(ns:List Int):List O:=.list ((gj 6).map λ i=>.ref (i+1))::jk.map (λ p=>.list (p.map .str))++[.list (ns.map .int)]
theorem aaG(ns:List Int)(J:List O):Jh (Tp ns++J):=by
 refine⟨rfl,λ i f e=>?_⟩;match i,((aN.mp e).1)with
 |0,_=>cases e;rfl
 |1,_=>cases e;rfl
 |2,_=>cases e;rfl
 |3,_=>cases e;rfl
 |4,_=>cases e;rfl
 |5,_=>cases e;rfl
theorem ahx:(jk.map R).Nodup:=by decide+kernel
noncomputable def q0:Os:=⟨some (.ref 7),none,none,none,none,none,none,none,none,none,none,none,none,none,none,none,none,none,none,none,none,none⟩
noncomputable def told(dn:List Nat):List Str:=dn.map λ i=>R ((jk[i]?).getD [])
inductive Wy(ns:List Int)(i:Nat)(rest:List Nat)(Y:St):Prop
 |mk (S:List O) (g:G) (nl:Str->Nat) (o:Option V) (dn:List Nat) (hd:dn++rest=gj 6) (ho:rest=[]->o=some (.ref 6)) (e:Y=⟨FB ((q0.s1 (some (.ref i))).s2 o),S⟩) (b:Aa S g 8 11 (told dn) (told dn) nl (λ _=>[]) []) (hi:g.i=i) (f:Gh S g (told dn) nl 7 (ns.map .int))
theorem Wz{ns:List Int}{a i:Nat}{rest:List Nat}{Y:St}(I:Wy ns a (i::rest) Y):∃Y',Br (aG 8) 8 (aX ("parts":Str) (.ref (i+1)) Y)=.ok .next Y'/\Wy ns a rest Y':=by
 obtain⟨S,g,nl,o,dn,hdn,-,rfl,b,hgi,h7⟩:=I;have hi6:i < jk.length:=List.mem_range.mp (by rw[<-hdn];simp:i∈gj 6);have hx:R ((jk[i]?).getD [])∉told dn:=λ q=>by
  have hr:(told (gj 6)).Nodup:=by decide+kernel
  rw[<-hdn]at hr;unfold told at hr q;rw[aP]at hr;exact(cN.mp hr).2.2 _ q _ (by simp) rfl
 have hlen:=congrArg yh hdn;simp only[aq,oN]at hlen;obtain⟨S2,g2,nl2,t1,t2,t3,t4⟩:=aaB b (by unfold told;rw[au];lia) (by rw[bf hi6];exact vq hi6) (b.lrep.stat.2 i _ (by rw[bf hi6];rfl)) hx (L:=FB ((q0.s1 (some (.ref a))).s2 (some (.ref (i+1))))) rfl (by rw[hgi];rfl);rw[(by unfold told;rw[aP];rfl:told dn++[R ((jk[i]?).getD [])]=told (dn++[i]))]at t2 t4;refine⟨_,t1,S2,g2,nl2,_,dn++[i],by rw[<-hdn];simp,λ q=>?_,rfl,t2,t3.trans hgi,t4 7 _ h7⟩;subst q;have h5:(dn++[i])[dn.length]?=(gj 6)[dn.length]?:=by rw[hdn]
 rw[List.getElem?_concat_length,show dn.length=5 by simp at hlen;assumption]at h5;rw[Option.some.inj h5]
theorem aaH{S1 J:List O}(l1:S1.length=12)(st1:Jh S1)(i2:fM (S1++J) (g0 S1.length))(h8:S1[8]?=some (.cell (some (.ref 11))))(h9:S1[9]?=some (.cell none))(h10:S1[10]?=some (.cell none))(h11:S1[11]?=some (.dict [] 0)):uZ (S1++J) (g0 S1.length) 8 11 [] (λ _=>0) (λ _=>[]):=by
 refine⟨i2,st1.push,by simp,aK h8,⟨none,aK h9⟩,⟨none,aK h10⟩,⟨0,aK h11⟩,nofun,nofun,λ q=>?_,nofun,⟨by simp,nofun⟩,λ _ _=>rfl,λ _=>dR _,dR _⟩;rcases q with q|q|⟨v,hv,_⟩|q
 ·replace q:11=S1.length:=q;lia
 ·replace q:11=S1.length+2:=q;lia
 ·cases hv
 ·contradiction
inductive ajI(ns:List Int)(f:(St->aC Fl)->aC Fl):Prop
 |mk (S:List O) (g:G) (nl:Str->Nat) (e:∀r,f r=r ⟨FB ((q0.s1 (some (.ref g.i))).s2 (some (.ref 6))),S⟩) (b:Bd S g 8 11 (jk.map R) nl (λ _=>[]) [] 0) (h7:S[7]?=some (.list (ns.map .int)))
theorem aaI(ns:List Int):ajI ns λ r=>aA (VN (aG 8) 8 ⟨FB q0,Tp ns++[.cell none,.cell none,.cell none]⟩) (λ Y=>aA (VP (aG 8) 8 Y) λ Y=>aA (Pn (aG 8) 8 Y) r):=by
 obtain⟨S1,hS1⟩:∃S1,Tp ns++[O.cell (some (.ref 11)),.cell none,.cell none,.dict [] 0]=S1:=⟨_,rfl⟩;obtain⟨J,i1,i2⟩:=aah 6 (FB q0) S1 (by rw[<-hS1];show 8<=12;simp);have lrep:=aaH (by rw[<-hS1];rfl) (by rw[<-hS1];exact aaG ns _) i2 (by rw[<-hS1];rfl) (by rw[<-hS1];rfl) (by rw[<-hS1];rfl) (by rw[<-hS1];rfl);have f0:=lrep.stat.1;obtain⟨Y',f1,S,g,nl,o,dn,hdn,ho,rfl,b,hgi,hs7⟩:=mq (f:=λ i:Nat=>V.ref (i+1)) (ok:=cW (.ref 0) ⟨FB (q0.s1 (some (.ref (S1.length+1)))),S1++J⟩) (body:=λ v Y=>Br (aG 8) 8 (aX ("parts":Str) v Y))
  (Wy ns (S1.length+1)) (λ rest Y I=>by obtain⟨S,g,nl,o,dn,-,-,rfl,b,-,-⟩:=I;exact sE f0 b.lrep.stat.1)
  (λ i rest Y I=>let ⟨Y',e,I'⟩:=Wz I;⟨.next,Y',.inl rfl,e,I'⟩)
  (gj 6) ⟨FB (q0.s1 (some (.ref (S1.length+1)))),S1++J⟩
  ⟨S1++J,g0 S1.length,λ _=>0,none,[],rfl,nofun,rfl,⟨lrep,rfl,rfl,λ _=>rfl,λ _=>rfl,rfl,rfl⟩,rfl,⟨⟨aK (by rw[<-hS1];rfl),XH i2 (by simp)⟩,nofun⟩⟩
 rw[aW]at hdn;obtain rfl:=ho rfl;rw[hdn]at b;have e2:Pn (aG 8) 8 ⟨FB (q0.s1 (some (.ref (S1.length+1)))),S1++J⟩=.ok .next ⟨FB ((q0.s1 (some (.ref (S1.length+1)))).s2 (some (.ref 6))),S⟩:=by
  simp only[Pn,aC.bind_ok,lV,(λ L=>jd (L:=L) f0 rfl),f1];rfl
 refine⟨S,g,nl,λ r=>?_,⟨b,λ own h=>dD.mpr ⟨own,h,rfl⟩,by decide+kernel,dR _,λ _=>dR _,nofun,λ v p=>⟨nofun,nofun⟩⟩,hs7.1.1⟩;have hl0:(Tp ns++[O.cell none,.cell none,.cell none]).length=11:=rfl;rw[hgi];simp only[VN,VP,aC.bind_ok,fG,hl0,(λ L=>((λ L=>yV (L:=L) (v:=.ref 11) (rfl:(Tp ns++[O.cell none,.cell none,.cell none]++[O.dict [] 0])[8+0]?=some (.cell none)) (by simp)) L).trans (congrArg (λ s=>aC.ok () (St.mk L s)) hS1)),aQ,i1];exact(congrArg (λ r'=>aA r' r) e2).trans rfl
noncomputable def Qi(ns:List Int):List Int:=ns.take 10++[49,1254,365729]
theorem ae6(ns:List Int):(Qi ns).length<=13:=by
 unfold Qi;rw[aq,pO];show min 10 ns.length+3<=13;lia
inductive ae7(g:G)(n:Nat)(xs:List Int)(q:Os)(rest:List Int)(Y:St):Prop
 |mk (S':List O) (g':G) (M:List Str) (nl':Str->Nat) (nv:Str->List Str) (E:List (Str×Str)) (c:Nat) (q':Os) (e:Y=⟨FB q',S'⟩) (b:Bd S' g' 8 11 M nl' nv E c) (hi:g'.i=g.i) (hl:c+rest.length=xs.length) (f:Gh S' g' M nl' n (xs.map V.int)) (hq:q'.a1=q.a1)
theorem aaJ{g:G}{n:Nat}{xs:List Int}{q:Os}{z:Int}{rest:List Int}{Y:St}(hl:xs.length<=13)(hq1:q.a1=some (.ref g.i))(I:ae7 g n xs q (z::rest) Y):∃Y',Bu (aG 8) 8 (aX ("number":Str) (.int z) Y)=.ok .next Y'/\ae7 g n xs q rest Y':=by
 obtain⟨S',g',M,nl',nv,E,c,q',rfl,bd,hgi,hcl,f,qs⟩:=I;obtain⟨S2,g2,M2,nl2,nv2,E2,q2,t1,t2,t3,t4,t5⟩:=Tn bd (by lia) (n:=z) (q:=q'.s3 (some (.int z))) (by rw[hgi];exact qs.trans hq1) rfl;simp only[aZ]at hcl;exact⟨_,t1,S2,g2,M2,nl2,nv2,E2,c+1,q2,rfl,t2,t3.trans hgi,by lia,t5 n _ f,t4.e1.trans qs⟩
theorem Bd.to13{S:List O}{g:G}{k nd c:Nat}{M:List Str}{nl:Str->Nat}{nv:Str->List Str}{E:List (Str×Str)}(h:Bd S g k nd M nl nv E c)(hc:c<=13):Bd S g k nd M nl nv E 13:=
 ⟨h.b,h.all,bT h.mlen (Nat.add_le_add_left hc 6),bT h.elen (Nat.mul_le_mul_left 2 hc),λ v=>bT (h.nlen v) hc,h.hE,h.hnv⟩
theorem Bd.push{S:List O}{g:G}{k nd c:Nat}{M:List Str}{nl:Str->Nat}{nv:Str->List Str}{E:List (Str×Str)}(h:Bd S g k nd M nl nv E c)(J:List O):Bd (S++J) g k nd M nl nv E c:=⟨h.b.push J,h.all,h.mlen,h.elen,h.nlen,h.hE,h.hnv⟩
inductive ahy(i:Nat)(q:Os)(r:aC Fl):Prop
 |mk (S':List O) (g':G) (M:List Str) (nl':Str->Nat) (nv:Str->List Str) (E:List (Str×Str)) (q':Os) (e:r=.ok .next ⟨FB q',S'⟩) (b:Bd S' g' 8 11 M nl' nv E 13) (hi:g'.i=i) (hq:q'.a1=q.a1)
theorem aaK{S:List O}{g:G}{M:List Str}{nl:Str->Nat}{nv:Str->List Str}{E:List (Str×Str)}{xs:List Int}{n:Nat}{q:Os}(h:Bd S g 8 11 M nl nv E 0)(f:Gh S g M nl n (xs.map V.int))(hl:xs.length<=13)(hq1:q.a1=some (.ref g.i)):
  ahy g.i q (lV (λ v Y=>Bu (aG 8) 8 (aX ("number":Str) v Y)) (λ Y=>aC.ok .next Y) (.ref n) ⟨FB q,S⟩):=by
 obtain⟨Y',f1,S',g',M,nl',nv,E,c,q',rfl,bd,hgi,hcl,-,qs⟩:=mq (f:=V.int) (ok:=cW (.ref n) ⟨FB q,S⟩) (body:=λ v Y=>Bu (aG 8) 8 (aX ("number":Str) v Y))
  (ae7 g n xs q) (λ rest Y I=>by obtain⟨S',g',M,nl',nv,E,c,q',rfl,-,-,-,f',-⟩:=I;exact sE f.1.1 f'.1.1)
  (λ z rest Y I=>let ⟨Y',e,I'⟩:=aaJ hl hq1 I;⟨.next,Y',.inl rfl,e,I'⟩)
  xs ⟨FB q,S⟩ ⟨S,g,M,nl,nv,E,0,q,rfl,h,rfl,jA _,f,rfl⟩
 refine⟨S',g',M,nl',nv,E,q',?_,bd.to13 (by have:c+0=xs.length:=hcl;lia),hgi,qs⟩;unfold lV;rw[(jd (L:=FB q) f.1.1 (by rw[au];exact aV (by lia)))];dsimp only;rw[f1];rfl
theorem agA{ns:List Int}(hns:ns.length<=63){S:List O}{g:G}{nl:Str->Nat}(h:Bd S g 8 11 (jk.map R) nl (λ _=>[]) [] 0)(h7:S[7]?=some (.list (ns.map .int))){q:Os}(hq0:q.a0=some (.ref 7))(hq1:q.a1=some (.ref g.i)):
  ahy g.i q (V0 (aG 8) 8 ⟨FB q,S⟩):=by
 have sl:∀L,d9 (.ref 7) .none (.int 10) ⟨L,S⟩=_:=λ L=>pY (L:=L) h7 (by rw[au];exact aV (by lia)) (i:=10) (by simp)
 have b1:=(h.push [.list ((ns.map V.int).take 10)]).push [.list [.int 49,.int 1254,.int 365729]];have ad:=λ L=>add_list (L:=L) (aK (J:=[O.list [.int 49,.int 1254,.int 365729]]) (cM (S:=S) (.list ((ns.map V.int).take 10)))) (cM (S:=S++[O.list ((ns.map V.int).take 10)]) (.list [.int 49,.int 1254,.int 365729])) (by rw[pO];exact aV (by show _+3<=_;lia))
 rw[(by unfold Qi;rw[aP,uo];rfl:(ns.map V.int).take 10++[V.int 49,V.int 1254,V.int 365729]=(Qi ns).map V.int)]at ad;simp only[V0,(gL (L:=FB q) (x:=("script":Str)) hq0),aC.bind_ok,sl,fG,ad];exact aaK (b1.push _) ⟨⟨cM _,fX b1.b.lrep.rep⟩,λ v hv=>lN (cT (b1.b.lrep.nls v hv))⟩ (ae6 ns) hq1
theorem ajJ{S:List O}{g:G}{k nd:Nat}{M:List Str}{nl:Str->Nat}{nv:Str->List Str}{E:List (Str×Str)}(h:Bd S g k nd M nl nv E 13){q:Os}(hq1:q.a1=some (.ref g.i)):
  ∃L' S',(aA (V1 (aG 8) k ⟨FB q,S⟩) λ Y=>aA (Iz (aG 8) k Y) λ Y=>aA (Pq (aG 8) k Y) λ Y=>aA (Pr (aG 8) k Y) λ Y=>aA (Pz (aG 8) k Y) λ Y=>.ok .next Y)=.ok (.ret (.bool true)) ⟨L',S'⟩:=by
 have hk:=h.b.k8;have gN:=h.b.gN;have hml:=h.mlen;have hsu:∀v∈g.N,∀s∈g.su v,s∈g.N:=λ v _ s hs=>by
  rw[h.b.gs,yg]at hs;rw[gN];exact(h.hE s v hs).1
 obtain⟨S1,hc,r1,st1⟩:=aax h.b.lrep.rep hk h.b.rd hsu 6 (FR q false q.a19 q.a20 q.a21);have me:=λ args=>h.b.lrep.rep.meth (cl:=aG 8) (args:=args) (name:=("prepare":Str)) (f:=92) (L:=FR q false q.a19 q.a20 q.a21) (by kernel_rfl)
 have gso:aH ("sorter":Str) ⟨FR q false q.a19 q.a20 q.a21,S⟩=.ok (.ref g.i) ⟨FR q false q.a19 q.a20 q.a21,S⟩:=gL (L:=FR q false q.a19 q.a20 q.a21) (x:=("sorter":Str)) hq1 S;obtain⟨ring,hring,e5⟩:∃ring:Bool,(ring=true↔Cyc g.su M)/\Iz (aG 8) k ⟨FR q false q.a19 q.a20 q.a21,S⟩=.ok .next ⟨FR q ring q.a19 q.a20 q.a21,S1⟩:=by
  rw[gN]at hc;rcases hc with⟨hc,c1⟩|⟨hc,c1⟩
  ·have c1':aG 8 92 [.ref g.i] ⟨FR q false q.a19 q.a20 q.a21,S⟩=.ok .none ⟨FR q false q.a19 q.a20 q.a21,S1⟩:=c1;refine⟨false,⟨nofun,λ q=>absurd q hc⟩,?_⟩;have b:Bv (aG 8) k ⟨FR q false q.a19 q.a20 q.a21,S⟩=.ok .next ⟨FR q false q.a19 q.a20 q.a21,S1⟩:=by
    simp only[Bv,Ea,gso,aC.bind_ok,me,c1',aQ]
   unfold Iz Bb;rw[b]
  ·have c1':aG 8 92 [.ref g.i] ⟨FR q false q.a19 q.a20 q.a21,S⟩=.exc .cyc ⟨FR q false q.a19 q.a20 q.a21,S1⟩:=c1;refine⟨true,⟨λ _=>hc,λ _=>rfl⟩,?_⟩;have b:Bv (aG 8) k ⟨FR q false q.a19 q.a20 q.a21,S⟩=.exc .cyc ⟨FR q false q.a19 q.a20 q.a21,S1⟩:=by
    simp only[Bv,Ea,gso,aC.bind_ok,me,c1',aC.bind_exc,Dm]
   unfold Iz Bb;rw[b];dsimp only;rfl
 have l1:=h.b.lrep.step r1 st1;obtain⟨ep,e3⟩:=l1.nds;have so:=λ L=>Ti (L:=L) e3 (by rw[au];lia)
 rw[wF]at so;have em:(M.map ((λ p:Str×V=>p.1)∘λ v=>(v,V.ref (nl v))))=M:=by
  rw[show((λ p:Str×V=>p.1)∘λ v=>(v,V.ref (nl v)))=id from rfl,List.map_id]
 have l2:=(l1.push [O.list ((gG M).map .str)]).push [O.list []];obtain⟨o1,e1⟩:=l2.c1;have hk8:=h.b.lrep.k8;have kl:pL (S1++[O.list ((gG M).map .str)]++[O.list []]) (Jo S g) S1.length (.list ((gG M).map .str)):=⟨aK (cM _),fX l1.rep⟩;have kp:pL (S1++[O.list ((gG M).map .str)]++[O.list []]) (Jo S g) (S1++[O.list ((gG M).map .str)]).length (.list (([]:List Str).map .str)):=⟨cM _,fX (l1.push _).rep⟩;have rnd:GD ((S1++[O.list ((gG M).map .str)]++[O.list []]).set (k+1) (.cell (some (.ref (S1++[O.list ((gG M).map .str)]).length)))) (Jo S g) k nd M nl nv E [] (gG M) (S1++[O.list ((gG M).map .str)]).length S1.length:=by
  have hlen:(gG M).length=M.length:=(mK M).length_eq;have hel:=h.elen;refine⟨(l2.cell (.inl rfl) (some (.ref (S1++[O.list ((gG M).map .str)]).length))),⟨gN,h.b.gs,λ v _ _=>h.b.gp v,λ v=>?_,wD h.b.lrep.rep.nd,h.b.nf.trans h.b.po.symm,nofun,nofun⟩,⟨_,rfl⟩,pK _ e1,kp.cell e1,kl.cell e1,?_,?_,h.hE,h.hnv,λ _ _ _ _=>nofun,?_⟩
  ·show v∈g.N.filter (free g)↔_;rw[gZ,gN];unfold free;rw[decide_eq_true_eq,(λ v=>by rw[h.b.gp];simp:∀v,g.np v=0↔wC E v []=0)];exact⟨λ w=>⟨w.1,nofun,w.2⟩,λ w=>⟨w.1,w.2.2⟩⟩
  ·symm
   exact qI.mpr λ v _=>by simp
  ·show 0+_<=60;lia
  ·lia
 obtain⟨L',S',e8⟩:=ajH rnd q (i:=g.i) rfl hq1 (ring:=ring) hring q.a20 q.a21;refine⟨L',S',?_⟩;have e4:V1 (aG 8) k ⟨FB q,S⟩=.ok .next ⟨FR q false q.a19 q.a20 q.a21,S⟩:=rfl
 have e6:Pq (aG 8) k ⟨FR q ring q.a19 q.a20 q.a21,S1⟩=.ok .next ⟨FR q ring (some (.ref S1.length)) q.a20 q.a21,S1++[O.list ((gG M).map .str)]⟩:=by
  simp only[Pq,aC.bind_ok,(λ L=>jh (L:=L) l1.c0),(λ L=>by rw[so L];exact congrArg (λ m=>aC.ok (V.ref S1.length) (St.mk L (S1++[O.list ((gG m).map V.str)]))) em:∀L,vB [.ref nd] ⟨L,S1⟩=.ok (.ref S1.length) ⟨L,S1++[O.list ((gG M).map .str)]⟩)];rfl
 have e7:Pr (aG 8) k ⟨FR q ring (some (.ref S1.length)) q.a20 q.a21,S1++[O.list ((gG M).map .str)]⟩=.ok .next ⟨FR q ring (some (.ref S1.length)) q.a20 q.a21,(S1++[O.list ((gG M).map .str)]++[O.list []]).set (k+1) (.cell (some (.ref (S1++[O.list ((gG M).map .str)]).length)))⟩:=by
  simp only[Pr,aC.bind_ok,fG,(λ L=>yV (L:=L) (v:=.ref (S1++[O.list ((gG M).map .str)]).length) e1 (by exact cQ (by assumption)))]
 rw[e4,aQ,e5,aQ,e6,aQ,e7,aQ,e8];rfl
theorem ae8(ns:List Int)(hns:ns.length<=63):∃τ,aG 9 330 [.ref 7] ⟨[],Tp ns⟩=.ok (.bool true) τ:=by
 obtain⟨S,g,nl,b0,bd,h7⟩:=aaI ns;obtain⟨S',g',M,nl',nv,E,q',b3,bd',hgi,hq1⟩:=agA hns bd h7 (q:=(q0.s1 (some (.ref g.i))).s2 (some (.ref 6))) rfl rfl;obtain⟨L',S'',b4⟩:=ajJ bd' (q:=q') (by rw[hq1,hgi];rfl);rw[(by kernel_rfl:aG 9 330 [.ref 7] ⟨[],Tp ns⟩=sV [] (bY (gR (aG 8) 60) (zU 330) (enC 330 8) ⟨FB q0,Tp ns++[.cell none,.cell none,.cell none]⟩)),aei];unfold akO;rw[b0,b3];exact⟨_,(congrArg (sV []) b4).trans rfl⟩
end Mine
namespace Mine
open PySem
theorem ak9:(rA 330).isSome=true:=by kernel_rfl
theorem WD(ns:List Int)(h:ns.length<=63):∃f τ,rA 330=some f/\wM (aG 8) f [.ref 7] {loc:=[],sto:=FZ ns}=.ok (.bool true) τ:=by
 obtain⟨f,hf⟩:=Option.isSome_iff_exists.mp ak9;obtain⟨τ,e⟩:=ae8 ns h;rw[zQ _ _ _ _ (by decide) (by decide),hf]at e;exact⟨f,τ,hf,e⟩
end Mine
theorem PySem.Challenge.cw_il0148_01_holds : PySem.Challenge.rw_il0148_01.Holds :=
 Mine.join Mine.WD
