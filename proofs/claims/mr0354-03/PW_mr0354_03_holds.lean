import PyProof.Rows.All
import Wide.All
import OpenK.AllK
import Wide.FinOn
import PySem.Challenge.RW_mr0354_03
set_option Elab.async false
set_option tactic.hygienic false
set_option genSizeOf false
set_option genSizeOfSpec false
set_option linter.unusedVariables false
set_option linter.unusedSimpArgs false
set_option maxRecDepth 100000
open And renaming intro->Fk
open Array renaming eq_empty_of_size_eq_zero->nH,find?->BU,find?_toList->v0,getElem?_eq_none_iff->pP,getElem?_eq_some_iff->cD,getElem?_mapIdx->sF,getElem?_toList->bg,isEmpty_eq_false_iff->pO,length_toList->fB,replicate->o8,size_map->pG,toList_append->ie,toList_inj->ff,toList_map->yy,toList_push->we,toList_setIfInBounds->pN
open Bool renaming and_eq_true->b6,and_eq_true_iff->uR,decide_and->zY,eq_false_iff->yx,eq_iff_iff->ic,exists_bool->cy,false_and->AA,false_eq_true->cg,false_ne_true->aH,false_or->Bz,not_eq_true'->cE,or_comm->BS,or_eq_true->zX
open Classical renaming byContradiction->FZ
open Eq renaming trans->q8
open ForInStep renaming yield->fj
open Function renaming comp->Ga,comp_def->tT
open Int renaming add_assoc->BP,add_comm->kg,add_sub_cancel->mV,le_antisymm->pF,le_of_lt->nu,le_refl->lc,le_total->tx,le_trans->dy,lt_of_le_of_lt->yw,lt_of_lt_of_le->mU,lt_trans->CK,max_eq_left->pE,max_eq_right->d6,min_eq_left->pD,min_eq_right->oZ,natCast_nonneg->bk,not_le->Ev,not_lt->xk,ofNat_inj->BO,ofNat_le->bI,ofNat_lt->iL,sub_nonneg_of_le->vY,sub_sub->C4,toNat->Fj,toNat_natCast->a9,toNat_of_nonneg->wc
open Int.ofNat renaming inj->fe
open List renaming all_cons->lW,all_eq_true->b4,any_cons->jo,any_eq_false->jm,any_eq_true->b3,append_assoc->bC,append_nil->aN,cons_append->cM,count_append->jl,count_cons->dP,count_eq_zero->ed,dropLast_concat->uQ,drop_eq_getElem_cons->fE,drop_eq_nil_of_le->j3,drop_length->jS,exists_cons_of_ne_nil->eZ,ext_getElem?->yv,filterMap_cons->lB,filter_append->wa,filter_congr->gk,filter_cons->aQ,filter_eq_nil_iff->gn,filter_eq_self->iH,filter_filter->v9,filter_flatMap->vW,filter_map->kj,filter_nil->zW,find?_cons->dO,flatMap->mZ,flatMap_cons->cY,foldl->gK,foldl_cons->dN,foldr_cons->pj,forIn_cons->pi,getD_eq_getElem?_getD->bF,getElem?_eq_getElem->au,getElem?_eq_none->bH,getElem?_eq_none_iff->jd,getElem?_eq_some_iff->dL,getElem?_map->b9,getElem?_range->dj,getElem_map->jR,idxOf_append->yt,isEmpty_map->yE,length->oJ,length_append->aw,length_cons->aE,length_eq_one_iff->sB,length_eq_zero_iff->jV,length_erase_of_mem->rg,length_filter_le->tS,length_map->ak,length_nil->cm,length_pos_iff->vV,length_pos_of_mem->sy,length_range->yr,length_replicate->cJ,length_reverse->lA,length_singleton->b8,length_take->yD,lookup->jk,lookup_cons->dE,map->fO,map_append->bQ,map_congr_left->bo,map_cons->ao,map_flatMap->nV,map_map->aL,map_nil->gj,mem_append->az,mem_append_left->ci,mem_append_right->eL,mem_cons->ah,mem_cons_of_mem->am,mem_cons_self->ai,mem_filter->bX,mem_filterMap->mi,mem_flatMap->b0,mem_iff_getElem->uP,mem_map->an,mem_of_getElem?->uO,mem_range->cu,mem_range'_1->eQ,mem_replicate->mh,mem_singleton->bS,mem_toArray->yC,mergeSort_perm->vU,ne_nil_of_mem->mf,nil_append->aX,nodup_append->bR,nodup_cons->aC,pairwise_mergeSort->sv,range->aV,range'->gU,range_succ->zV,replicate->ar,replicate_succ->dh,reverse_cons->nc,set_cons_succ->v8,set_cons_zero->v7,sum_append->zU,sum_cons->bh,toArray->BN,zipIdx_cons->yB
open List.Pairwise renaming map->qn
open List.Perm renaming eq_of_pairwise->FY,map->FX,trans->FW
open List.cons renaming inj->wb,injEq->jp
open Nat renaming add->Ck,add_add_add_comm->vT,add_assoc->bN,add_comm->ca,add_eq_zero_iff->mc,add_le_add->qO,add_le_add_left->dX,add_le_add_right->cB,add_lt_add_of_lt_of_le->q7,add_mul->lb,add_right_comm->bj,add_sub_of_le->nv,add_zero->nr,div_eq_of_lt->zT,div_le_self->Aw,exists_eq_add_of_le->j1,exists_eq_succ_of_ne_zero->ef,le_add_left->bZ,le_add_right->ba,le_antisymm->kK,le_max_left->kJ,le_max_right->fA,le_of_add_le_add_right->qZ,le_of_ble_eq_true->bi,le_of_eq->aT,le_of_lt->dx,le_of_lt_succ->aP,le_of_not_le->fw,le_of_not_lt->cz,le_of_succ_le->c7,le_refl->bx,le_succ->gb,le_succ_of_le->cG,le_total->CJ,le_trans->ae,lt_irrefl->dC,lt_of_le_of_lt->bc,lt_of_le_of_ne->mS,lt_of_lt_of_le->aA,lt_of_mul_lt_mul_left->rc,lt_of_not_le->fu,lt_of_succ_lt_succ->ks,lt_succ_of_le->c0,lt_succ_of_lt->gA,lt_succ_self->cR,lt_trans->ew,max_eq_left->kI,max_eq_right->j0,max_le->i6,min_eq_left->iE,min_eq_right->jZ,min_le_left->Av,min_le_right->zS,mul_add->ph,mul_le_mul_left->fK,mul_one->u5,mul_zero->nq,ne_of_gt->gz,ne_of_lt->gy,not_lt->et,not_lt_of_le->gQ,not_lt_zero->eH,not_succ_le_self->hM,one_mul->pg,pow_le_pow_right->vS,sub_add_cancel->yq,sub_le->xj,succ_le_succ->aR,succ_pos->kf,zero_add->aW,zero_le->aD
open Nat.succ renaming inj->ql
open Ne renaming symm->aI
open Option renaming bind_eq_some_iff->jq,bind_some->dT,isSome_iff_exists->qm,map_eq_some_iff->d8,map_some->bW,none->ac
open Option.some renaming inj->jc,injEq->cO
open Prod renaming ext->Fi
open Prod.mk renaming inj->eP,injEq->pC
open PyProof.Rows renaming IntsAre->fh,SortKind->yQ,add_int->DM,add_str->DL,args_list_sort->Ep,args_sorted1->FT,entry_list_sort->C2,entry_sorted->FQ,floordiv_int->DK,ge_int->DJ,getItem_tuple->Fe,kind_sorted->F5,le_int->DI,listUpdate_at->u4,loadName_read->kc,lt_int->DH,mod_int->DG,mul_int->DF,neg_int->DD,plain_sorted->FP,seqEpoch_at->yT,slot_list_sort->Eo,sortedAll_at->FO,sortedAll_old->Fa,sub_int->DB,tail_any->yP,truthy_int->Dz
open PyProof.Rows.SortSt renaming mk'->pf
open PySem renaming Around->ax,Comprehension->cb,IsZip->mq,OsState->BG,Params->mr,Result->qs,Shared->af,Slot->B3,World->c8,arm_eval_Attribute->jO,arm_eval_Call->Fg,builtinLookup_eq_fast->fg,call_meets->fH,call_meetsIn->pz,codeAny_builtin->ly,codeAny_call_builtin->mR,codeAny_loop->FR,codeAny_mono->k9,codeAny_of_tree->C3,entryFor_of_tree->CI,entry_listiter_next->As,eval_ListComp->Ff,getMethod_builtin->pB,intBits_le_64->Fd,intKind_is->jA,isSubtype_type->gP,nums_intItems->Fc,plainId_quiet->Fb,pushCells_keeps->C1,sizeLine_eq->eK,slot_list_getitem->BM,slot_list_setitem->BL,slot_listiter_next->Bx,typeIs_str->tt,typeLookup_type->i7,wpAny_Constant_none->Ar,wpAny_askSetting->CH,wpAny_assignInOrder_more->kr,wpAny_attempt->E9,wpAny_bindName->En,wpAny_call_entry->eC,wpAny_collect_seq->BK,wpAny_comprehension_free->kq,wpAny_execs_nil->se,wpAny_field->bM,wpAny_handled->u3,wpAny_isTrue_BoolOp->Aq,wpAny_is_plain->Em,wpAny_letTemporaryGo->iM,wpAny_loadPart->tw,wpAny_mkText->FN,wpAny_newList->u2,wpAny_newObj_type->dm,wpAny_newTuple->El,wpAny_noted->F3,wpAny_onRaise->E8,wpAny_pyIter_list->BJ,wpAny_pyIter_zip->CG,wpAny_release->E7,wpAny_seqItems->fJ,wpAny_sequenceKey->BI,wpAny_setField->jH,wpAny_throw->yS,wpAny_truthy_list->BH,wpAny_typeOf->FM,wpAny_updatePart->CF
open PySem.Around renaming under_plainId->sG
open PySem.AutoIntOps renaming iadd_0->Fy,isub_0->Fx
open PySem.AutoListH renaming list___mul___list_int_3->F1
open PySem.AutoRange renaming range_iterator___next___range_iterator_1->F0
open PySem.AutoSeq1 renaming list_clear_list_0->Gc,sub_list_list->Gb
open PySem.Builtin renaming divisionGoesByPylong->nG
open PySem.Builtin.List renaming listFitsIndex->DP,listSubscript?->DO,listTooLong->DN
open PySem.Builtin.Range renaming rangeFitsLong->CX,rangeSize->cK,small->cS
open PySem.Builtin.SmallTypes renaming nextOf->be,ownedTupleHandOut->iZ,ownedTupleIsFree->cL
open PySem.Builtin.Str renaming occurrences->nX,partsBetween->EY,strKind->qq,tooLong->EX
open PySem.Calls renaming call_function_entry->qp,loadGlobal_builtin->By,loadGlobal_global->pA
open PySem.Code renaming builtin->BQ,quiet_builtin->wd
open PySem.Data renaming func->cq
open PySem.DictEntry renaming refKey->tU
open PySem.EntryCells renaming newEntry->Fv
open PySem.Env renaming kindOf->Ex
open PySem.Heap renaming ExtBut->uN,MadeExcOf->Az,SameBut->bv,get?->Ew,get?_push_of_some->aj,get?_push_size->aq,get?_update_ne->vZ,get?_update_other->sE,get?_update_self->bO,lt_size->a8,size_push->eY,size_update->yG
open PySem.Heap.DictOf renaming new->EW
open PySem.Heap.ExtBut renaming refl->EV
open PySem.Heap.IsList renaming typeIs->EU
open PySem.Heap.IsSliceOf renaming new->B1
open PySem.Heap.SameBut renaming update->bD
open PySem.IntMulOk renaming of_left->F9,of_right->F8
open PySem.IsL renaming update->Eu
open PySem.IsRange renaming new->Ay
open PySem.Keeper renaming boundFrame->vX,frame->Ax,machine->yF
open PySem.Manifest renaming find?->F7
open PySem.NameKind renaming cell->aK,free->bJ
open PySem.Obj renaming data_mapFields->dH,isFreed_of_fields->gM,mapFields->cx,mapSeq->cQ,putNameByArray->ja,putName_eq->ls
open PySem.PyData renaming canLay0->dD,canLayAll0->eJ,depth->eX,depthAll->gV,eqv->cf,eqvAll->jb,int->jQ,strOk->At
open PySem.SeqAt renaming canLay_of_shaped->gf,shaped->bu
open PySem.SeqAt.RcNeAt renaming lists->Dy,lists_lengths->Dx
open PySem.Str renaming append->Es,join->FU,length->Er,ofString->ag
open PySem.Txt renaming count->Fh,mul->F6,split->sw
open PySem.Value renaming isInt_shape->v6,none->aM,ref->dq,type->fS
open PySem.Value.ref renaming injEq->FV
open PySem.W renaming InitBack->yR,KasT->AB,Looks->F2,boot_heap->kP,codeRec_of->bY,handedOut_of->xi,kas_item->D1,kas_sort->dM,looks_clsIn->F4,looks_field->q9,mg_of->nJ,ns_none_of->dw
open PySem.W.Fast renaming te10110043849684766642->pM,te14364793385576792824->dn,te5923862056798008813->qo
open PySem.W.KF renaming slot_mset->uM
open PySem.W.Looks renaming ld->Et,of_pure->lz
open PySem.W.OpenLaw renaming row->Au
namespace Mine
open PySem PySem.W PyProof.Rows
inductive V where
 |none
 |bool (b:Bool)
 |int (i:Int)
 |str (l:List Nat)
 |tup (vs:List V)
 |lst (vs:List V)
 |obj (C:Addr) (fs:List (Nat×V))
 |ref (a:Addr)
 |fn (x:Value)
 |rng (lo hi:Int)
 |vals (b:Bool) (a:Addr)
 |nxt (a:Addr)
inductive O where
 |lst (vs:List V)
 |dict (es:List (Int×V)) (ep:Nat)
 |inst (C:Addr) (d:Addr)
 |ns (fs:List (Nat×V))
 |sl (C:Addr) (vs:List (Option V))
 |it (l:Addr) (k:Nat)
 |set (xs:List Int)
 |fld
 |zip (TI TO:Addr) (is:List Addr)
 |own (n:Nat)
 |itl (us:List V)
 |itr (lo hi:Int)
noncomputable def z5:Bool→String|false=> "dict_values" |true=> "dict_items"
noncomputable abbrev Hp:=Addr→Option O
noncomputable abbrev aZ:=Nat→Option V
noncomputable def upd{α:Type}(f:Nat→Option α)(i:Nat)(v:α):Nat→Option α:=λj=>if j=i then some v else f j
noncomputable def del{α:Type}(f:Nat→Option α)(i:Nat):Nat→Option α:=λj=>if j=i then ac else f j
@[simp] theorem upd_same{α:Type}(f:Nat→Option α)(i:Nat)(v:α):upd f i v i=some v:=by simp[upd]
theorem upd_ne{α:Type}{f:Nat→Option α}{i j:Nat}{v:α}(h:j≠i):upd f i v j=f j:=by simp[upd,h]
@[simp] theorem lT{α:Type}(f:Nat→Option α)(i:Nat):del f i i=ac:=by simp[del]
theorem del_ne{α:Type}{f:Nat→Option α}{i j:Nat}(h:j≠i):del f i j=f j:=by simp[del,h]
noncomputable def uT(h:Heap)(d:Addr)(m:Str→Option Value)(c:Nat):Prop:=
 ∃es n,h.get? d=some {cls:=.type "dict",data:=.dict es n}∧es.size≤c∧StrKeys es∧∀name,nsFind es name=m name
noncomputable def uZ(h:Heap)(a:Addr)(xs:Array Value):Prop:=∃n,h.get? a=some {cls:=.type "tuple",data:=.seq xs n}
section
variable(nm:Nat→Str)
mutual
noncomputable def VR(F:Addr→Prop)(h:Heap):V→Value→Prop
 | .none,x=>x= .none
 | .bool b,x=>x= .bool b
 | .int i,x=>∃t,x= .int i t
 | .str l,x=>∃t,x= .str ⟨l.toArray⟩ t
 | .tup vs,x=>∃a xs,x= .ref a∧F a∧uZ h a xs∧VRs F h vs xs.toList
 | .lst vs,x=>∃a xs,x= .ref a∧F a∧h.PlainList a xs∧VRs F h vs xs.toList
 | .obj C fs,x=>∃a d m,x= .ref a∧F a∧F d∧h.get? a=some {cls:=.ref C,dict:=some d}∧uT h d m fs.length∧pq F h fs m∧∀n y,m n=some y→∃p∈fs,nm p.1=n
 | .ref a,x=>x= .ref a
 | .fn y,x=>x=y
 | .rng lo hi,x=>∃a t u v,x= .ref a∧F a∧IsRange h a lo hi 1 t u v
 | .vals b d,x=>∃a,x= .ref a∧F a∧h.get? a=some {cls:=.type (z5 b),data:=.fields #[.ref d]}
 | .nxt i,x=>∃a,x= .ref a∧F a∧h.get? a=some {cls:=.type "method-wrapper",data:=.fields #[.builtin "list_iterator.__next__",.ref i]}
noncomputable def VRs(F:Addr→Prop)(h:Heap):List V→List Value→Prop
 | [],xs=>xs=[]
 |v::vs,xs=>∃y ys,xs=y::ys∧VR F h v y∧VRs F h vs ys
noncomputable def pq(F:Addr→Prop)(h:Heap):List (Nat×V)→(Str→Option Value)→Prop
 | [],_=>True
 |(i,v)::fs,m=>(∃y,m (nm i)=some y∧VR F h v y)∧pq F h fs m
end
noncomputable def SR(F:Addr→Prop)(h:Heap):List (Option V)→List (Option Value)→Prop
 | [],xs=>xs=[]
 |v::vs,xs=>∃y ys,xs=y::ys∧(match v,y with| .none,.none=>True|some v,some y=>VR nm F h v y|_,_=>False)∧SR F h vs ys
noncomputable def ER(F:Addr→Prop)(h:Heap):List (Int×V)→List (Int×Value)→Prop
 | [],xs=>xs=[]
 |(k,v)::es,xs=>∃y ys,xs=(k,y)::ys∧VR nm F h v y∧ER F h es ys
theorem VRe:(∀(nm:Nat→Str) F h x,VR nm F h .none x=(x= .none))∧(∀(nm:Nat→Str) F h x b,VR nm F h (.bool b) x=(x= .bool b))∧(∀(nm:Nat→Str) F h x i,VR nm F h (.int i) x=∃t,x= .int i t)∧(∀(nm:Nat→Str) F h x l,VR nm F h (.str l) x=∃t,x= .str ⟨l.toArray⟩ t)
 ∧(∀(nm:Nat→Str) F h x vs,VR nm F h (.tup vs) x=∃a xs,x= .ref a∧F a∧uZ h a xs∧VRs nm F h vs xs.toList)∧(∀(nm:Nat→Str) F h x vs,VR nm F h (.lst vs) x=∃a xs,x= .ref a∧F a∧h.PlainList a xs∧VRs nm F h vs xs.toList)
 ∧(∀(nm:Nat→Str) F h x C fs,VR nm F h (.obj C fs) x=∃a d m,x= .ref a∧F a∧F d∧h.get? a=some {cls:=.ref C,dict:=some d}∧uT h d m fs.length∧pq nm F h fs m∧∀n y,m n=some y→∃p∈fs,nm p.1=n)
 ∧(∀(nm:Nat→Str) F h x a,VR nm F h (.ref a) x=(x= .ref a))∧(∀(nm:Nat→Str) F h x y,VR nm F h (.fn y) x=(x=y))∧(∀(nm:Nat→Str) F h x lo hi,VR nm F h (.rng lo hi) x=∃a t u v,x= .ref a∧F a∧IsRange h a lo hi 1 t u v)
 ∧(∀(nm:Nat→Str) F h x b d,VR nm F h (.vals b d) x=∃a,x= .ref a∧F a∧h.get? a=some {cls:=.type (z5 b),data:=.fields #[.ref d]})
 ∧∀(nm:Nat→Str) F h x i,VR nm F h (.nxt i) x=∃a,x= .ref a∧F a∧h.get? a=some {cls:=.type "method-wrapper",data:=.fields #[.builtin "list_iterator.__next__",.ref i]}:=
 ⟨λz z z z=>rfl,λz z z z z=>rfl,λz z z z z=>rfl,λz z z z z=>rfl,λz z z z z=>rfl,λz z z z z=>rfl,λz z z z z z=>rfl,λz z z z z=>rfl,λz z z z z=>rfl,λz z z z z z=>rfl,λz z z z z z=>rfl,λz z z z z=>rfl⟩
theorem VRse:(∀(nm:Nat→Str) F h xs,VRs nm F h [] xs=(xs=[]))∧∀(nm:Nat→Str) F h v vs xs,VRs nm F h (v::vs) xs=∃y ys,xs=y::ys∧VR nm F h v y∧VRs nm F h vs ys:=⟨λz z z z=>rfl,λz z z z z z=>rfl⟩
theorem VRfe:(∀(nm:Nat→Str) F h m,pq nm F h [] m=True)∧∀(nm:Nat→Str) F h i v fs m,pq nm F h ((i,v)::fs) m=((∃y,m (nm i)=some y∧VR nm F h v y)∧pq nm F h fs m):=⟨λz z z z=>rfl,λz z z z z z z=>rfl⟩
theorem SRe:(∀(nm:Nat→Str) F h xs,SR nm F h [] xs=(xs=[]))∧∀(nm:Nat→Str) F h v vs xs,SR nm F h (v::vs) xs=∃y ys,xs=y::ys∧(match v,y with| .none,.none=>True|some v,some y=>VR nm F h v y|_,_=>False)∧SR nm F h vs ys:=⟨λz z z z=>rfl,λz z z z z z=>rfl⟩
theorem ERe:(∀(nm:Nat→Str) F h xs,ER nm F h [] xs=(xs=[]))∧∀(nm:Nat→Str) F h k v es xs,ER nm F h ((k,v)::es) xs=∃y ys,xs=(k,y)::ys∧VR nm F h v y∧ER nm F h es ys:=⟨λz z z z=>rfl,λz z z z z z z=>rfl⟩
variable(prog:Program)(w:c8)
noncomputable def OR(F:Addr→Prop)(h:Heap)(a:Addr):O→Prop
 | .lst vs=>∃xs,h.PlainList a xs∧VRs nm F h vs xs.toList
 | .dict es ep=>∃kvs,h.DictAt (intKind prog w) a kvs ep∧ER nm F h es kvs
 | .inst C d=>h.get? a=some {cls:=.ref C,dict:=some d}
 | .ns fs=>∃m,uT h a m fs.length∧pq nm F h fs m∧∀n y,m n=some y→∃p∈fs,nm p.1=n
 | .sl C vs=>∃xs d od,h.get? a=some {cls:=.ref C,dict:=some d,slots:=xs}∧F d∧h.get? d=some od∧SR nm F h vs xs.toList
 | .it l k=>h.IsListIter a l k∧∃o,h.get? a=some o∧o.dict=none
 | .set xs=>h.SetOf (intKind prog w) a (λk=>decide (k∈xs)) xs.length
 | .fld=>∃o vs,h.get? a=some o∧o.data= .fields vs
 | .zip TI TO is=>h.get? a=some {cls:=.type "zip",dict:=none,data:=.fields #[.none,.bool false,.bool false,.ref TI,.ref TO],slots:= #[]}∧F TI∧h.get? TI=some {cls:=.type "tuple",data:=.seq (is.map dq).toArray}
 | .own n=>∃xs,h.get? a=some {cls:=.type "tuple",data:=.seq xs}∧xs.size=n
 | .itl us=>∃l xs,h.IsListIter a l 0∧F l∧h.PlainList l xs∧VRs nm F h us xs.toList
 | .itr lo hi=>IsRangeIter h a lo (hi - lo).toNat 1
end
section
variable{nm:Nat→Str}
noncomputable def bB(F F':Addr→Prop)(h h':Heap):Prop:=∀a o,F a→h.get? a=some o→F' a∧h'.get? a=some o
theorem uT.keep{F F' h h' d m c}(k:bB F F' h h')(hf:F d)(x:uT h d m c):F' d∧uT h' d m c:=
 (by obtain⟨es,n,e,r⟩:=x;exact⟨(k _ _ hf e).1,es,n,(k _ _ hf e).2,r⟩)
theorem uZ.keep{F F' h h' d m}(k:bB F F' h h')(hf:F d)(x:uZ h d m):F' d∧uZ h' d m:=
 (by obtain⟨n,e⟩:=x;exact⟨(k _ _ hf e).1,n,(k _ _ hf e).2⟩)
theorem eN{F F':Addr→Prop}{h h':Heap}{d:Addr}{m}(k:bB F F' h h')(hf:F d)(x:h.PlainList d m):F' d∧h'.PlainList d m:=
 (by obtain⟨n,e⟩:=x;exact⟨(k _ _ hf e).1,n,(k _ _ hf e).2⟩)
mutual
theorem VR.keep{F F':Addr→Prop}{h h':Heap}(k:bB F F' h h'):∀{v:V}{x:Value},VR nm F h v x→VR nm F' h' v x
 | .none,_,r=>by simpa only[VRe]using r
 | .bool _,_,r=>by simpa only[VRe]using r
 | .int _,_,r=>by simpa only[VRe]using r
 | .str _,_,r=>by simpa only[VRe]using r
 | .tup vs,x,r=>by
   simp only[VRe]at r⊢
   obtain⟨a,xs,e,f,t,q⟩:=r
   exact⟨a,xs,e,(t.keep k f).1,(t.keep k f).2,VRs.keep k q⟩
 | .lst vs,x,r=>by
   simp only[VRe]at r⊢
   obtain⟨a,xs,e,f,t,q⟩:=r
   exact⟨a,xs,e,(eN k f t).1,(eN k f t).2,VRs.keep k q⟩
 | .obj C fs,x,r=>by
   simp only[VRe]at r⊢
   refine r.elim λa r1_=>r1_.elim λd r2_=>r2_.elim λm r3_=>r3_.elim λe r4_=>r4_.elim λf r5_=>r5_.elim λg r6_=>r6_.elim λt r7_=>r7_.elim λu r8_=>r8_.elim λq z=>?_
   exact⟨a,d,m,e,(k _ _ f t).1,(u.keep k g).1,(k _ _ f t).2,(u.keep k g).2,pq.keep k q,z⟩
 | .ref _,_,r=>by simpa only[VRe]using r
 | .fn _,_,r=>by simpa only[VRe]using r
 | .rng lo hi,_,r=>by
   simp only[VRe]at r⊢
   refine r.elim λa r1_=>r1_.elim λt r2_=>r2_.elim λu r3_=>r3_.elim λv r4_=>r4_.elim λe r5_=>r5_.elim λf g=>?_
   exact⟨a,t,u,v,e,(k _ _ f g).1,(k _ _ f g).2⟩
 | .vals _ d,_,r=>by
   simp only[VRe]at r⊢
   refine r.elim λa r1_=>r1_.elim λe r2_=>r2_.elim λf g=>?_
   exact⟨a,e,(k _ _ f g).1,(k _ _ f g).2⟩
 | .nxt d,_,r=>by
   simp only[VRe]at r⊢
   refine r.elim λa r1_=>r1_.elim λe r2_=>r2_.elim λf g=>?_
   exact⟨a,e,(k _ _ f g).1,(k _ _ f g).2⟩
theorem VRs.keep{F F':Addr→Prop}{h h':Heap}(k:bB F F' h h'):∀{vs:List V}{xs:List Value},VRs nm F h vs xs→VRs nm F' h' vs xs
 | [],_,r=>by simpa only[VRse]using r
 |v::vs,xs,r=>by
  simp only[VRse]at r⊢
  refine r.elim λy r1_=>r1_.elim λys r2_=>r2_.elim λe r3_=>r3_.elim λp q=>?_
  exact⟨y,ys,e,VR.keep k p,VRs.keep k q⟩
theorem pq.keep{F F':Addr→Prop}{h h':Heap}(k:bB F F' h h'):∀{fs:List (Nat×V)}{m:Str→Option Value},pq nm F h fs m→pq nm F' h' fs m
 | [],_,_=>by trivial
 |(i,v)::fs,m,r=>by
  simp only[VRfe]at r⊢
  refine r.elim λe1_ q=>e1_.elim λy r2_=>r2_.elim λe p=>?_
  exact⟨⟨y,e,VR.keep k p⟩,pq.keep k q⟩
end
theorem SR.keep{F F':Addr→Prop}{h h':Heap}(k:bB F F' h h'):∀{vs:List (Option V)}{xs:List (Option Value)},SR nm F h vs xs→SR nm F' h' vs xs
 | [],_,r=>by simpa only[SRe]using r
 |v::vs,xs,r=>by
  simp only[SRe]at r⊢
  obtain⟨y,ys,e,p,q⟩:=r
  refine⟨y,ys,e,?_,SR.keep k q⟩
  cases v<;>cases y<;>simp_all
  exact p.keep k
theorem ER.keep{F F':Addr→Prop}{h h':Heap}(k:bB F F' h h'):∀{vs:List (Int×V)}{xs:List (Int×Value)},ER nm F h vs xs→ER nm F' h' vs xs
 | [],_,r=>by simpa only[ERe]using r
 |(i,v)::vs,xs,r=>by
  simp only[ERe]at r⊢
  refine r.elim λy r1_=>r1_.elim λys r2_=>r2_.elim λe r3_=>r3_.elim λp q=>?_
  exact⟨y,ys,e,p.keep k,ER.keep k q⟩
theorem OR.keep{prog:Program}{w:c8}{F F':Addr→Prop}{h h':Heap}(k:bB F F' h h'){a:Addr}(ha:∀o,h.get? a=some o→h'.get? a=some o):∀{o:O},OR nm prog w F h a o→OR nm prog w F' h' a o
 | .lst vs,r=>by
   refine r.elim λxs r1_=>r1_.elim λp q=>?_
   exact⟨xs,p.at ha,q.keep k⟩
 | .dict es ep,r=>by
   refine r.elim λxs r1_=>r1_.elim λe2_ q=>e2_.elim λo r3_=>r3_.elim λes' r4_=>r4_.elim λg p=>?_
   exact⟨xs,⟨o,es',ha _ g,p⟩,q.keep k⟩
 | .inst C d,r=>ha _ r
 | .ns fs,r=>by
   refine r.elim λm r1_=>r1_.elim λe2_ r3_=>r3_.elim λq z=>e2_.elim λes r4_=>r4_.elim λn r5_=>r5_.elim λe p=>?_
   exact⟨m,⟨es,n,ha _ e,p⟩,q.keep k,z⟩
 | .sl C vs,r=>by
   refine r.elim λxs r1_=>r1_.elim λd r2_=>r2_.elim λod r3_=>r3_.elim λp r4_=>r4_.elim λf r5_=>r5_.elim λg q=>?_
   exact⟨xs,d,od,ha _ p,(k _ _ f g).1,(k _ _ f g).2,q.keep k⟩
 | .it l k',r=>by
   refine r.elim λe1_ r2_=>r2_.elim λo' r3_=>r3_.elim λp' q'=>e1_.elim λo r4_=>r4_.elim λp q=>?_
   exact⟨⟨o,ha _ p,q⟩,o',ha _ p',q'⟩
 | .set xs,r=>by
   refine r.elim λo r1_=>r1_.elim λes r2_=>r2_.elim λep r3_=>r3_.elim λt r4_=>r4_.elim λp q=>?_
   exact⟨o,es,ep,t,ha _ p,q⟩
 | .fld,r=>by
   refine r.elim λo r1_=>r1_.elim λvs r2_=>r2_.elim λp q=>?_
   exact⟨o,vs,ha _ p,q⟩
 | .zip TI TO is,r=>by
   refine r.elim λp r1_=>r1_.elim λf g=>?_
   exact⟨ha _ p,(k _ _ f g).1,(k _ _ f g).2⟩
 | .own n,r=>by
   refine r.elim λxs r1_=>r1_.elim λp q=>?_
   exact⟨xs,ha _ p,q⟩
 | .itl us,r=>by
   refine r.elim λl r1_=>r1_.elim λxs r2_=>r2_.elim λe3_ r4_=>r4_.elim λf r5_=>r5_.elim λpl r=>e3_.elim λo r6_=>r6_.elim λp q=>?_
   exact⟨l,xs,⟨o,ha _ p,q⟩,(eN k f pl).1,(eN k f pl).2,r.keep k⟩
 | .itr lo hi,r=>ha _ r
end
end Mine
namespace Mine
open PySem PySem.W PyProof.Rows
noncomputable def Fz(stk:Addr→Prop)(hp:Hp)(a:Addr):Prop:=hp a=ac∧¬stk a
structure cH where
 nm:Nat→Str
 prog:Program
 w:c8
 H₀:Heap
 K:Frag
variable(P:cH)
noncomputable abbrev cH.VR(P:cH)(stk:Addr→Prop)(hp:Hp)(h:Heap):V→Value→Prop:=Mine.VR P.nm (Fz stk hp) h
noncomputable abbrev cH.VRs(P:cH)(stk:Addr→Prop)(hp:Hp)(h:Heap):List V→List Value→Prop:=Mine.VRs P.nm (Fz stk hp) h
noncomputable abbrev cH.M(P:cH):Model:=model P.prog P.w
structure HeapOk(stk:Addr→Prop)(hp:Hp)(s:af):Prop where
 obj:∀a o,hp a=some o→OR P.nm P.prog P.w (Fz stk hp) s.heap a o
 apart:∀a,hp a≠ac→¬stk a
 base:∀b o,P.H₀.get? b=some o→s.heap.get? b=some o
 new:∀a,hp a≠ac→P.H₀.get? a=ac
 stkn:∀a,stk a→P.H₀.get? a=ac
 stkl:∀a,stk a→∃o,s.heap.get? a=some o
 gens:s.gens= #[]
noncomputable def ng(o:Obj):Prop:=∃es n,o.data= .dict es n
structure Ext(own stk:Addr→Prop)(hp:Hp)(s:af)(hp':Hp)(s':af):Prop where
 keep:∀b o,hp b=ac→¬own b→s.heap.get? b=some o→s'.heap.get? b=some o∨(stk b∧ng o∧∃sl,s'.heap.get? b=some {o with slots:=sl})
 there:∀b o,s.heap.get? b=some o→∃o',s'.heap.get? b=some o'
 dic:∀b o,stk b→s.heap.get? b=some o→ng o→∃o',s'.heap.get? b=some o'∧ng o'
 fresh:∀b,hp b=ac→hp' b≠ac→s.heap.get? b=ac
 drawn:s'.drawn=s.drawn
 os:s'.os=s.os
noncomputable def no1:Addr→Prop:=λz=>False
theorem Ext.refl(own stk:Addr→Prop)(hp:Hp)(s:af):Ext own stk hp s hp s:=⟨λz z z z e=>.inl e,λz o e=>⟨o,e⟩,λz o z e d=>⟨o,e,d⟩,λz a b=>absurd a b,rfl,rfl⟩
theorem Ext.same{own stk:Addr→Prop}{hp hp1:Hp}{s s1:af}(x:Ext own stk hp s hp1 s1){b:Addr}{o:Obj}(e:hp b=ac)(n:¬own b)(h:¬stk b∨¬ng o)(g:s.heap.get? b=some o):s1.heap.get? b=some o:=by
 rcases x.keep b o e n g with q|⟨q1,q2,_⟩
 ·exact q
 ·rcases h with h|h
  ·exact absurd q1 h
  ·exact absurd q2 h
theorem Ext.trans{own stk:Addr→Prop}{hp hp1 hp2:Hp}{s s1 s2:af}(x:Ext own stk hp s hp1 s1)(y:Ext own stk hp1 s1 hp2 s2):Ext own stk hp s hp2 s2:=by
 refine⟨λb o e n g=>?_,λb o g=>?_,λb o st g d=>?_,λb e n=>?_,y.drawn.trans x.drawn,y.os.trans x.os⟩
 ·have h1:hp1 b=ac:=by
   cases q:hp1 b with
   |none=>rfl
   |some v=>have:=x.fresh b e (by rw[q];intro z;cases z);rw[g]at this;cases this
  rcases x.keep b o e n g with g1|⟨st,d,sl,g1⟩
  ·exact y.keep b o h1 n g1
  ·rcases y.keep b _ h1 n g1 with g2|⟨_,_,sl2,g2⟩
   ·exact .inr ⟨st,d,sl,g2⟩
   ·exact .inr ⟨st,d,sl2,g2⟩
 ·refine(x.there b o g).elim λo' g'=>?_
  exact y.there b o' g'
 ·refine(x.dic b o st g d).elim λo' r1_=>r1_.elim λg' d'=>?_
  exact y.dic b o' st g' d'
 ·cases q:hp1 b with
  |none=>
   have:=y.fresh b q n
   cases g:s.heap.get? b with
   |none=>rfl
   |some o=>obtain⟨o',g'⟩:=x.there b o g;rw[this]at g';cases g'
  |some v=>exact x.fresh b e (by rw[q];intro z;cases z)
theorem Ext.wider{own own' stk:Addr→Prop}{hp hp1:Hp}{s s1:af}(x:Ext own stk hp s hp1 s1)(k:∀b,own b→own' b):Ext own' stk hp s hp1 s1:=
 ⟨λb o e n g=>x.keep b o e (λz=>n (k b z)) g,x.there,x.dic,x.fresh,x.drawn,x.os⟩
theorem Ext.of1{own stk:Addr→Prop}{hp hp1:Hp}{s s1:af}(x:Ext no1 stk hp s hp1 s1):Ext own stk hp s hp1 s1:=x.wider λy z=>z.elim
theorem Ext.exact{own stk:Addr→Prop}{hp hp1:Hp}{s s1:af}(k:∀b o,hp b=ac→¬own b→s.heap.get? b=some o→s1.heap.get? b=some o)(th:∀b o,s.heap.get? b=some o→∃o',s1.heap.get? b=some o')
 (dc:∀b o,stk b→s.heap.get? b=some o→ng o→∃o',s1.heap.get? b=some o'∧ng o')(fr:∀b,hp b=ac→hp1 b≠ac→s.heap.get? b=ac)(hd:s1.drawn=s.drawn)(ho:s1.os=s.os):Ext own stk hp s hp1 s1:=
 ⟨λb o e n g=>.inl (k b o e n g),th,dc,fr,hd,ho⟩
theorem Ext.keepy{own stk:Addr→Prop}{hp hp1:Hp}{s s1:af}(x:Ext own stk hp s hp1 s1)(k:∀b,own b→stk b):bB (Fz stk hp) (Fz stk hp1) s.heap s1.heap:=by
 intro a o i1_ g;refine i1_.elim λe n=>?_
 refine⟨⟨?_,n⟩,x.same e (λz=>n (k a z)) (.inl n) g⟩
 cases q:hp1 a with
 |none=>rfl
 |some v=>have:=x.fresh a e (by rw[q];intro z;cases z);rw[g]at this;cases this
inductive PostT{α:Type}(own stk:Addr→Prop)(hp:Hp)(s:af)(Q:α→Hp→af→Prop)(x:α)(s':af):Prop
 |intro (hp':Hp) (e:Ext own stk hp s hp' s') (ok:HeapOk P stk hp' s') (q:Q x hp' s'):PostT own stk hp s Q x s'
theorem PostT.back{α:Type}{own stk:Addr→Prop}{hp hp1:Hp}{s s1:af}{Q:α→Hp→af→Prop}(e:Ext own stk hp s hp1 s1){x:α}{s':af}(h:PostT P own stk hp1 s1 Q x s'):PostT P own stk hp s Q x s':=
 (by obtain⟨hp',e',ok,q⟩:=h;exact⟨hp',e.trans e',ok,q⟩)
noncomputable abbrev XP:=Value→Hp→af→Prop
noncomputable def T{α:Type}(own stk:Addr→Prop)(A:ax)(t:Sem α)(hp:Hp)(s:af)(Q:α→Hp→af→Prop)(X:XP):Prop:=
 wpAny P.M A t (PostT P own stk hp s Q) (PostT P own stk hp s X) s
variable{P}
section
variable{α β:Type}{own stk:Addr→Prop}{A:ax}{hp:Hp}{s:af}{X:XP}
theorem T.thn{t:Sem α}{Q:α→Hp→af→Prop}{G:α→af→Prop}(h:T P own stk A t hp s Q X)(k:∀a hp1 s1,Ext own stk hp s hp1 s1→HeapOk P stk hp1 s1→Q a hp1 s1→G a s1):
 wpAny P.M A t G (PostT P own stk hp s X) s:=
 wpAny_mono h (by rintro a s1 ⟨hp1,e,ok,q⟩;exact k a hp1 s1 e ok q) λy y z=>z
theorem T.nxt{t:Sem β}{Q:β→Hp→af→Prop}{hp1:Hp}{s1:af}(e:Ext own stk hp s hp1 s1)(h:T P own stk A t hp1 s1 Q X):wpAny P.M A t (PostT P own stk hp s Q) (PostT P own stk hp s X) s1:=
 wpAny_mono h (λy y z=>z.back P e) λy y z=>z.back P e
theorem Ext.toks(n:Nat):Ext own stk hp s hp {s with toks:=n}:=.exact (λz z z z e=>e) (λz o e=>⟨o,e⟩) (λz o z e d=>⟨o,e,d⟩) (λz a b=>absurd a b) rfl rfl
theorem HeapOk.toks(ok:HeapOk P stk hp s)(n:Nat):HeapOk P stk hp {s with toks:=n}:=⟨ok.obj,ok.apart,ok.base,ok.new,ok.stkn,ok.stkl,ok.gens⟩
end
theorem Ext.grow{own stk:Addr→Prop}{hp:Hp}{s:af}{h':Heap}{tk:Nat}(k:∀b o,s.heap.get? b=some o→h'.get? b=some o):Ext own stk hp s hp {s with heap:=h',toks:=tk}:=
 .exact (λb o z z e=>k b o e) (λb o e=>⟨o,k b o e⟩) (λb o z e d=>⟨o,k b o e,d⟩) (λz a b=>absurd a b) rfl rfl
theorem HeapOk.grow{stk:Addr→Prop}{hp:Hp}{s:af}(ok:HeapOk P stk hp s){h':Heap}{tk:Nat}(k:∀b o,s.heap.get? b=some o→h'.get? b=some o):HeapOk P stk hp {s with heap:=h',toks:=tk}:=
 ⟨λa o e=>(ok.obj a o e).keep (λa o f g=>⟨f,k a o g⟩) (λo g=>k a o g),ok.apart,λb o e=>k b o (ok.base b o e),ok.new,ok.stkn,λa z=>(by obtain⟨o,e⟩:=ok.stkl a z;exact⟨o,k a o e⟩),ok.gens⟩
theorem fz_of_new{stk:Addr→Prop}{hp:Hp}{s:af}(ok:HeapOk P stk hp s){a:Addr}(h:s.heap.get? a=ac):Fz stk hp a:=by
 refine⟨?_,λz=>?_⟩
 ·cases q:hp a with
  |none=>rfl
  |some o=>
   have:=ok.obj a o q
   exfalso
   cases o with
   |lst vs=>obtain⟨xs,⟨n,e⟩,_⟩:=this;rw[h]at e;cases e
   |dict vs ep=>obtain⟨xs,⟨o,es,e,_⟩,_⟩:=this;rw[h]at e;cases e
   |inst C d=>rw[show s.heap.get? a=some _ from this]at h;cases h
   |ns fs=>obtain⟨m,⟨es,n,e,_⟩,_⟩:=this;rw[h]at e;cases e
   |sl C vs=>obtain⟨xs,d,od,e,_⟩:=this;rw[h]at e;cases e
   |it l k=>obtain⟨⟨o,e,_⟩,_⟩:=this;rw[h]at e;cases e
   |set _=>obtain⟨o,es,ep,t,e,_⟩:=this;rw[h]at e;cases e
   |fld=>obtain⟨o,vs,e,_⟩:=this;rw[h]at e;cases e
   |zip TI TO is=>have e:=this.1;rw[h]at e;cases e
   |own n=>obtain⟨xs,e,_⟩:=this;rw[h]at e;cases e
   |itl us=>obtain⟨l,xs,⟨o,e,_⟩,_⟩:=this;rw[h]at e;cases e
   |itr lo hi=>rw[show s.heap.get? a=some _ from this]at h;cases h
 ·refine(ok.stkl a z).elim λo e=>?_
  rw[h]at e;cases e
theorem HeapOk.track{stk:Addr→Prop}{hp:Hp}{s:af}(ok:HeapOk P stk hp s){h':Heap}{tk:Nat}{a:Addr}{o:O}(k:∀b o,s.heap.get? b=some o→h'.get? b=some o)(hn:s.heap.get? a=ac)
 (ho:OR P.nm P.prog P.w (Fz stk (upd hp a o)) h' a o):HeapOk P stk (upd hp a o) {s with heap:=h',toks:=tk}:=by
 have fz:=fz_of_new ok hn
 have ky:bB (Fz stk hp) (Fz stk (upd hp a o)) s.heap h':=by
  intro b ob i1_ g;refine i1_.elim λe n=>?_
  have:b≠a:=by rintro rfl;rw[hn]at g;cases g
  exact⟨⟨by rw[upd_ne this];exact e,n⟩,k b ob g⟩
 refine⟨λb ob e=>?_,λb e=>?_,λb ob e=>k b ob (ok.base b ob e),λb e=>?_,ok.stkn,λb z=>(by obtain⟨o,e⟩:=ok.stkl b z;exact⟨o,k b o e⟩),ok.gens⟩
 ·by_cases q:b=a
  ·subst q;rw[upd_same]at e;cases e;exact ho
  ·rw[upd_ne q]at e
   exact(ok.obj b ob e).keep ky (λo g=>k b o g)
 ·by_cases q:b=a
  ·subst q;exact fz.2
  ·rw[upd_ne q]at e;exact ok.apart b e
 ·by_cases q:b=a
  ·subst q
   cases g:P.H₀.get? b with
   |none=>rfl
   |some o'=>have:=ok.base b o' g;rw[hn]at this;cases this
  ·rw[upd_ne q]at e;exact ok.new b e
theorem Ext.track{own stk:Addr→Prop}{hp:Hp}{s:af}{h':Heap}{tk:Nat}{a:Addr}{o:O}(k:∀b o,s.heap.get? b=some o→h'.get? b=some o)(hn:s.heap.get? a=ac):Ext own stk hp s (upd hp a o) {s with heap:=h',toks:=tk}:=by
 refine .exact (λb o z z e=>k b o e) (λb o e=>⟨o,k b o e⟩) (λb o z e d=>⟨o,k b o e,d⟩) (λb e n=>?_) rfl rfl
 by_cases q:b=a
 ·subst q;exact hn
 ·rw[upd_ne q]at n;exact absurd e n
theorem HeapOk.change{stk:Addr→Prop}{hp:Hp}{s:af}(ok:HeapOk P stk hp s){h':Heap}{tk:Nat}{a:Addr}{o₀ o:O}(ha:hp a=some o₀)(hs:bv a s.heap h')
 (ho:OR P.nm P.prog P.w (Fz stk (upd hp a o)) h' a o):HeapOk P stk (upd hp a o) {s with heap:=h',toks:=tk}:=by
 have ha':hp a≠ac:=by rw[ha];intro z;cases z
 have ky:bB (Fz stk hp) (Fz stk (upd hp a o)) s.heap h':=by
  intro b ob i1_ g;refine i1_.elim λe n=>?_
  have:b≠a:=by rintro rfl;exact ha' e
  exact⟨⟨by rw[upd_ne this];exact e,n⟩,(hs.2 b this).trans g⟩
 refine⟨λb ob e=>?_,λb e=>?_,λb ob e=>?_,λb e=>?_,ok.stkn,λb z=>?_,ok.gens⟩
 ·by_cases q:b=a
  ·subst q;rw[upd_same]at e;cases e;exact ho
  ·rw[upd_ne q]at e
   exact(ok.obj b ob e).keep ky (λo g=>(hs.2 b q).trans g)
 ·by_cases q:b=a
  ·subst q;exact ok.apart b ha'
  ·rw[upd_ne q]at e;exact ok.apart b e
 ·have:b≠a:=by rintro rfl;rw[ok.new b ha']at e;cases e
  exact(hs.2 b this).trans (ok.base b ob e)
 ·by_cases q:b=a
  ·subst q;exact ok.new b ha'
  ·rw[upd_ne q]at e;exact ok.new b e
 ·have:b≠a:=by rintro rfl;exact ok.apart b ha' z
  refine(ok.stkl b z).elim λo e=>?_
  exact⟨o,(hs.2 b this).trans e⟩
theorem Ext.change{own stk:Addr→Prop}{hp:Hp}{s:af}(ok:HeapOk P stk hp s){h':Heap}{tk:Nat}{a:Addr}{o₀ o:O}(ha:hp a=some o₀)(hs:bv a s.heap h')(ht:∃o',h'.get? a=some o'):Ext own stk hp s (upd hp a o) {s with heap:=h',toks:=tk}:=by
 have ha':hp a≠ac:=by rw[ha];intro z;cases z
 refine .exact (λb ob e y g=>?_) (λb o' e=>?_) (λb o' st e d=>⟨o',(hs.2 b (by rintro rfl;exact ok.apart b ha' st)).trans e,d⟩) (λb e n=>?_) rfl rfl
 ·have:b≠a:=by rintro rfl;exact ha' e
  exact(hs.2 b this).trans g
 ·by_cases q:b=a
  ·subst q;exact ht
  ·exact⟨o',(hs.2 b q).trans e⟩
 ·by_cases q:b=a
  ·subst q;exact absurd e ha'
  ·rw[upd_ne q]at n;exact absurd e n
theorem HeapOk.drop{stk:Addr→Prop}{hp:Hp}{s:af}(ok:HeapOk P stk hp s)(a:Addr):HeapOk P stk (del hp a) s:=by
 have ky:bB (Fz stk hp) (Fz stk (del hp a)) s.heap s.heap:=by
  intro b ob i1_ g;refine i1_.elim λe n=>?_
  refine⟨⟨?_,n⟩,g⟩
  by_cases q:b=a
  ·subst q;simp
  ·rw[del_ne q];exact e
 have ne:∀b,del hp a b≠ac→hp b≠ac:=λb e=>by
  by_cases q:b=a
  ·subst q;simp at e
  ·rw[del_ne q]at e;exact e
 refine⟨λb ob e=>?_,λb e=>ok.apart b (ne b e),ok.base,λb e=>ok.new b (ne b e),ok.stkn,ok.stkl,ok.gens⟩
 by_cases q:b=a
 ·subst q;simp at e
 ·rw[del_ne q]at e
  exact(ok.obj b ob e).keep ky (λo g=>g)
theorem Ext.drop{own stk:Addr→Prop}{hp:Hp}{s:af}(a:Addr):Ext own stk hp s (del hp a) s:=by
 refine .exact (λb ob e z g=>g) (λb o' e=>⟨o',e⟩) (λb o z e d=>⟨o,e,d⟩) (λb e n=>?_) rfl rfl
 by_cases q:b=a
 ·subst q;simp at n
 ·rw[del_ne q]at n;exact absurd e n
end Mine
open PySem PySem.W PySem.Calls PyProof.Rows
namespace Mine
structure dY(d:Nat)(A:ax):Prop where
 depth:A.depth+d<recursionLimit
 units:A.units+8*d+128<cLine
 hd:0<d→A.handled=none
theorem dY.less{d d':Nat}{A:ax}(r:dY d A)(h:d'≤d):dY d' A:=⟨by have:=r.depth;lia,by have:=r.units;lia,λz=>r.hd (by lia)⟩
noncomputable def Fs(A:ax)(stk:Addr→Prop)(s:af):Prop:=∃l,A.frames=some l∧∀e∈l,e.scope.kind= .function∧∃L o,e.frame=some L∧stk L∧s.heap.get? L=some o∧ng o
theorem Fs.step{A:ax}{own stk:Addr→Prop}{hp hp':Hp}{s s':af}(f:Fs A stk s)(e:Ext own stk hp s hp' s'):Fs A stk s':=by
 refine f.elim λl r1_=>r1_.elim λhl h=>?_
 refine⟨l,hl,λx hx=>?_⟩
 refine(h x hx).elim λhk r1_=>r1_.elim λL r2_=>r2_.elim λo r3_=>r3_.elim λhf r4_=>r4_.elim λst r5_=>r5_.elim λg d=>?_
 refine(e.dic L o st g d).elim λo' r1_=>r1_.elim λg' d'=>?_
 exact⟨hk,L,o',hf,st,g',d'⟩
theorem Fs.up{A:ax}{stk stk':Addr→Prop}{s s':af}(f:Fs A stk s)(sub:∀a,stk a→stk' a)(k:∀b o,stk b→s.heap.get? b=some o→ng o→∃o',s'.heap.get? b=some o'∧ng o'):Fs A stk' s':=by
 refine f.elim λl r1_=>r1_.elim λhl h=>?_
 refine⟨l,hl,λx hx=>?_⟩
 refine(h x hx).elim λhk r1_=>r1_.elim λL r2_=>r2_.elim λo r3_=>r3_.elim λhf r4_=>r4_.elim λst r5_=>r5_.elim λg d=>?_
 refine(k L o st g d).elim λo' r1_=>r1_.elim λg' d'=>?_
 exact⟨hk,L,o',hf,sub L st,g',d'⟩
theorem Fs.around{A A':ax}{stk:Addr→Prop}{s:af}(f:Fs A stk s)(h:A'.frames=A.frames):Fs A' stk s:=(by obtain⟨l,hl,k⟩:=f;exact⟨l,h.trans hl,k⟩)
structure EnvOk(P:cH)(A:ax)(stk:Addr→Prop)(hp:Hp)(env:Env)(loc:aZ)(s:af):Prop where
 kind:env.scope.kind= .function
 glob:env.globals=mainGlobals
 blt:env.builtins=builtinsNs
 ns:∃m,s.heap.Ns env.locals m∧∀i v,loc i=some v→env.kindOf (P.nm i)=some .local→∃x,m (P.nm i)=some x∧P.VR stk hp s.heap v x
 cell:∀i v,loc i=some v→(env.kindOf (P.nm i)=some .cell∨env.kindOf (P.nm i)=some .free)→∃c x,env.cells.lookup (P.nm i)=some c∧s.heap.IsCell c (some x)∧P.VR stk hp s.heap v x
 stkL:stk env.locals
 stkC:∀n c,env.cells.lookup n=some c→stk c
 cells:∀n,(env.kindOf n=some .cell∨env.kindOf n=some .free)→∃c x,env.cells.lookup n=some c∧s.heap.IsCell c x
 apart:∀n n' c,env.cells.lookup n=some c→env.cells.lookup n'=some c→n=n'
 apartL:∀n,env.cells.lookup n≠some env.locals
 frs:Fs A stk s
 top:∃e0 r,A.frames=some (e0::r)∧e0.frame=env.frame
structure dG(P:cH)(mg mb:Str→Option Value):Prop where
 kin:P.K.In P.H₀
 g:P.H₀.Ns mainGlobals mg
 b:P.H₀.Ns builtinsNs mb
 lim:P.H₀.NoLimit
theorem isD_cell{o:Obj}{v:Option Value}(h:o.data= .cell v):¬ng o:=by rintro⟨es,n,e⟩;rw[h]at e;cases e
theorem EnvOk.step{P:cH}{A:ax}{stk:Addr→Prop}{hp hp':Hp}{env:Env}{loc:aZ}{s s':af}(x:EnvOk P A stk hp env loc s)(ok:HeapOk P stk hp s)(e:Ext no1 stk hp s hp' s'):EnvOk P A stk hp' env loc s':=by
 have hn:∀a,stk a→hp a=ac:=λa z=>by
  cases q:hp a with
  |none=>rfl
  |some o=>exact absurd z (ok.apart a (by rw[q];intro z;cases z))
 have ky:=e.keepy (stk:=stk) (λw z=>z.elim)
 refine⟨x.kind,x.glob,x.blt,?_,λi v h k=>?_,x.stkL,x.stkC,λn k=>?_,x.apart,x.apartL,x.frs.step e,x.top⟩
 ·refine x.ns.elim λm r1_=>r1_.elim λe2_ h=>e2_.elim λo r3_=>r3_.elim λes r4_=>r4_.elim λep r5_=>r5_.elim λg r=>?_
  have ns':s'.heap.Ns env.locals m:=by
   rcases e.keep _ _ (hn _ x.stkL) (λz=>z) g with g'|⟨_,_,sl,g'⟩
   ·exact⟨o,es,ep,g',r⟩
   ·exact⟨_,es,ep,g',r⟩
  refine⟨m,ns',λi v a b=>?_⟩
  refine(h i v a b).elim λy r1_=>r1_.elim λp q=>?_
  exact⟨y,p,q.keep ky⟩
 ·refine(x.cell i v h k).elim λc r1_=>r1_.elim λy r2_=>r2_.elim λp r3_=>r3_.elim λe4_ q=>e4_.elim λo r5_=>r5_.elim λg r=>?_
  exact⟨c,y,p,⟨o,e.same (hn _ (x.stkC _ _ p)) (λz=>z) (.inr (isD_cell r)) g,r⟩,q.keep ky⟩
 ·refine(x.cells n k).elim λc r1_=>r1_.elim λy r2_=>r2_.elim λp e3_=>e3_.elim λo r4_=>r4_.elim λg r=>?_
  exact⟨c,y,p,⟨o,e.same (hn _ (x.stkC _ _ p)) (λz=>z) (.inr (isD_cell r)) g,r⟩⟩
noncomputable abbrev XA:=Nat→Hp→Prop
noncomputable abbrev DE:=(V→Hp→Prop)→XA→aZ→Hp→Prop
noncomputable abbrev f9:=Nat×Hp→Value→Hp→af→Prop
inductive lX(Fl:f9)(X:XA)(e:Value)(hp:Hp)(s:af):Prop
 |intro (k:Nat×Hp) (x:X k.1 k.2) (l:Fl k e hp s):lX Fl X e hp s
inductive PV(P:cH)(stk:Addr→Prop)(Q:V→Hp→Prop)(x:Value)(hp:Hp)(s:af):Prop
 |intro (v:V) (q:Q v hp) (r:P.VR stk hp s.heap v x):PV P stk Q x hp s
variable(P:cH)(Fl:f9)
noncomputable def bz(d:Nat)(sc:Scope)(e:Expr)(D:DE):Prop:=
 ∀(A:ax)(env:Env)(s:af)(Q:V→Hp→Prop)(X:XA)(loc:aZ)(hp:Hp)(stk:Addr→Prop),
  dY d A→env.scope=sc→EnvOk P A stk hp env loc s→HeapOk P stk hp s→D Q X loc hp→
  T P no1 stk A (eval e env) hp s (PV P stk Q) (lX Fl X)
variable{P Fl}
section
variable{d:Nat}{sc:Scope}
noncomputable def ap(i:Nat):DE:=λQ z loc hp=>∃v,loc i=some v∧Q v hp
theorem Sim.var{i:Nat}{x:Str}{pos:Pos}(hx:P.nm i=x)(hk:(match sc.names.lookup x with|some .local=>true|some .cell=>true|some .free=>true|_=>false)=true)
 (hd:(x==("__debug__" :Str))=false)(hc:(x==("__classdict__" :Str))=false):bz P Fl d sc (.Name x pos) (ap i):=by
 subst hx
 intro A env s Q X loc hp stk _ hs ev ok i1_;refine i1_.elim λv r2_=>r2_.elim λhv hq=>?_
 refine wpAny_Name ?_ hd
 have hkind:env.kindOf (P.nm i)=sc.names.lookup (P.nm i):=by rw[←hs];rfl
 rw[←hkind]at hk
 cases q:env.kindOf (P.nm i)with
 |none=>rw[q]at hk;cases hk
 |some k=>
  rw[q]at hk
  cases k with
  |«local»=>
   refine ev.ns.elim λm r1_=>r1_.elim λn h=>?_
   obtain⟨y,p,r⟩:=h i v hv q
   exact wpAny_loadName_local ev.kind q n p ⟨hp,.refl ..,ok,v,hq,r⟩
  |cell=>
   obtain⟨c,y,p,g,r⟩:=ev.cell i v hv (.inl q)
   exact wpAny_loadName_cell ev.kind q p g ⟨hp,.refl ..,ok,v,hq,r⟩
  |free=>
   obtain⟨c,y,p,g,r⟩:=ev.cell i v hv (.inr q)
   exact wpAny_loadName_free ev.kind q p g ⟨hp,.refl ..,ok,v,hq,r⟩ hc
  |_=>cases hk
noncomputable def aJ(v:V):DE:=λQ z z hp=>Q v hp
theorem Sim.glob{mg mb:Str→Option Value}(tp:dG P mg mb){x:Str}{pos:Pos}{v:Value}(hk:sc.names.lookup x=some .globalImplicit)(hd:(x==("__debug__" :Str))=false)
 (hv:mg x=some v):bz P Fl d sc (.Name x pos) (aJ (.fn v)):=by
 intro A env s Q X loc hp stk _ hs ev ok hq
 refine wpAny_Name ?_ hd
 have hkind:env.kindOf x=some .globalImplicit:=by rw[←hk,←hs];rfl
 rw[kc ev.kind hkind]
 refine pA (mg:=mg) ?_ hv ⟨hp,.refl ..,ok,_,hq,by simp only[VRe]⟩
 rw[ev.glob];exact tp.g.keeps ok.base
theorem Sim.built{mg mb:Str→Option Value}(tp:dG P mg mb){x:Str}{pos:Pos}{v:Value}(hk:sc.names.lookup x=some .globalImplicit)(hd:(x==("__debug__" :Str))=false)
 (hm:mg x=ac)(hv:mb x=some v):bz P Fl d sc (.Name x pos) (aJ (.fn v)):=by
 intro A env s Q X loc hp stk _ hs ev ok hq
 refine wpAny_Name ?_ hd
 have hkind:env.kindOf x=some .globalImplicit:=by rw[←hk,←hs];rfl
 rw[kc ev.kind hkind]
 refine By (mg:=mg) (mb:=mb) ?_ hm ?_ hv ⟨hp,.refl ..,ok,_,hq,by simp only[VRe]⟩
 ·rw[ev.glob];exact tp.g.keeps ok.base
 ·rw[ev.blt];exact tp.b.keeps ok.base
theorem Sim.cInt{i:Int}{k:Nat}{pos:Pos}:bz P Fl d sc (.Constant (.int i) k pos) (aJ (.int i)):=
 λA env s Q X loc hp stk z z z ok hq=>wpAny_Constant_int ⟨hp,.toks _,ok.toks _,_,hq,by simp only[VRe];exact⟨_,rfl⟩⟩
theorem Sim.cNone{k:Nat}{pos:Pos}:bz P Fl d sc (.Constant .none k pos) (aJ .none):=
 λA env s Q X loc hp stk z z z ok hq=>Ar ⟨hp,.refl ..,ok,_,hq,by simp only[VRe]⟩
theorem Sim.cBool{b:Bool}{k:Nat}{pos:Pos}:bz P Fl d sc (.Constant (.bool b) k pos) (aJ (.bool b)):=
 λA env s Q X loc hp stk z z z ok hq=>wpAny_Constant_bool ⟨hp,.refl ..,ok,_,hq,by simp only[VRe]⟩
theorem Sim.cStr{x:Str}{l:List Nat}{k:Nat}{pos:Pos}(h:x=⟨l.toArray⟩):bz P Fl d sc (.Constant (.str x) k pos) (aJ (.str l)):=
 λA env s Q X loc hp stk z z z ok hq=>wpAny_Constant_str ⟨hp,.toks _,ok.toks _,_,hq,by simp only[VRe];exact⟨_,by rw[h]⟩⟩
noncomputable abbrev B2:=V→V→(V→Hp→Prop)→Hp→Prop
noncomputable def bK(b:B2)(l r:DE):DE:=λQ X loc hp=>l (λx hp1=>r (λy hp2=>b x y Q hp2) X loc hp1) X loc hp
noncomputable def nh(P:cH)(Fl:f9)(f:Value→Value→Sem Value)(b:B2):Prop:=
 ∀(A:ax)(s:af)(Q:V→Hp→Prop)(X:XA)(hp:Hp)(stk:Addr→Prop)(v u:V)(x y:Value),dY 0 A→HeapOk P stk hp s→P.VR stk hp s.heap v x→P.VR stk hp s.heap u y→b v u Q hp→
  T P no1 stk A (f x y) hp s (PV P stk Q) (lX Fl X)
theorem d5{stk:Addr→Prop}{hp hp':Hp}{s s':af}{v:V}{x:Value}(e:Ext no1 stk hp s hp' s')(h:P.VR stk hp s.heap v x):P.VR stk hp' s'.heap v x:=VR.keep (e.keepy λy z=>z.elim) h
theorem jg{stk:Addr→Prop}{hp hp':Hp}{s s':af}{v:List V}{x:List Value}(e:Ext no1 stk hp s hp' s')(h:P.VRs stk hp s.heap v x):P.VRs stk hp' s'.heap v x:=VRs.keep (e.keepy λy z=>z.elim) h
theorem DQ{A:ax}{env:Env}{s:af}{loc:aZ}{hp:Hp}{stk:Addr→Prop}{l r:Expr}{dl dr:DE}{Q:V→Hp→Prop}{X:XA}{f:Value→Value→Sem Value}{b:B2}(hl:bz P Fl d sc l dl)(hr:bz P Fl d sc r dr)(hf:nh P Fl f b)
 (rm:dY d A)(hs:env.scope=sc)(ev:EnvOk P A stk hp env loc s)(ok:HeapOk P stk hp s)(h:bK b dl dr Q X loc hp):
 wpAny P.M A (eval l env) (λa s₁=>wpAny P.M A (eval r env) (λb s₂=>wpAny P.M A (f a b) (PostT P no1 stk hp s (PV P stk Q)) (PostT P no1 stk hp s (lX Fl X)) s₂) (PostT P no1 stk hp s (lX Fl X)) s₁) (PostT P no1 stk hp s (lX Fl X)) s:=by
 refine(hl A env s _ X loc hp stk rm hs ev ok h).thn λa hp1 s1 e1 ok1 hq=>?_
 obtain⟨v,q1,r1⟩:=hq
 refine wpAny_mono (hr A env s1 _ X loc hp1 stk rm hs (ev.step ok e1) ok1 q1) (λy s2 hq=>?_) λx x z=>z.back P e1
 obtain⟨hp2,e2,ok2,u,q2,r2⟩:=hq
 exact T.nxt (e1.trans e2) (hf A s2 Q X hp2 stk v u a y (rm.less (aD _)) ok2 (d5 e2 r1) r2 q2)
theorem Sim.bin{l r:Expr}{op:Operator}{pos:Pos}{dl dr:DE}{b:B2}(hb:nh P Fl (binaryOp op) b)(hl:bz P Fl d sc l dl)(hr:bz P Fl d sc r dr):bz P Fl d sc (.BinOp l op r pos) (bK b dl dr):=
 λA env s Q X loc hp stk rm hs ev ok h=>wpAny_BinOp (DQ hl hr hb rm hs ev ok h)
theorem Sim.cmp{l r:Expr}{op:CmpOp}{pos:Pos}{dl dr:DE}{b:B2}(hb:nh P Fl (compareOp op) b)(hl:bz P Fl d sc l dl)(hr:bz P Fl d sc r dr)(hm:behindInMarks op r=false):bz P Fl d sc (.Compare l [op] [r] pos) (bK b dl dr):=
 λA env s Q X loc hp stk rm hs ev ok h=>wpAny_Compare1 (DQ hl hr hb rm hs ev ok h) hm
end
end Mine
namespace Mine
variable{P:cH}{Fl:f9}
noncomputable def lim:Nat:=1000000
theorem dZ:lim≤sizeLine:=by decide
noncomputable def bL(hp:Hp):V→Option (List V)
 | .lst vs=>some vs
 | .ref a=>match hp a with
   |some (.lst vs)=>some vs
   |_=>ac
 |_=>ac
theorem listOf_ref{hp:Hp}{a:Addr}{us:List V}(h:hp a=some (.lst us)):bL hp (.ref a)=some us:=congrArg (λo=>match o with|some (O.lst vs)=>some vs|_=>ac) h
theorem aU{stk:Addr→Prop}{hp:Hp}{s:af}{v:V}{x:Value}{vs:List V}(ok:HeapOk P stk hp s)(r:P.VR stk hp s.heap v x)(h:bL hp v=some vs):
 ∃a xs,x= .ref a∧s.heap.PlainList a xs∧P.VRs stk hp s.heap vs xs.toList:=by
 cases v with
 |lst us=>cases h;simp only[VRe]at r;refine r.elim λa r1_=>r1_.elim λxs r2_=>r2_.elim λe r3_=>r3_.elim λy r5_=>r5_.elim λp q=>?_;exact⟨a,xs,e,p,q⟩
 |ref a=>
  simp only[VRe]at r
  change (match hp a with|some (.lst vs)=>some vs|_=>ac)=_ at h
  cases q:hp a with
  |none=>rw[q]at h;cases h
  |some o=>
   rw[q]at h
   cases o with
   |lst us=>cases h;refine(ok.obj a _ q).elim λxs r1_=>r1_.elim λp z=>?_;exact⟨a,xs,r,p,z⟩
   |_=>cases h
 |_=>cases h
theorem VRs.length{F:Addr→Prop}{h:Heap}:∀{vs:List V}{xs:List Value},VRs P.nm F h vs xs→xs.length=vs.length:=by
 intro xs_
 induction xs_ with
 |nil=>
  intro xs r
  simp only[VRse]at r;subst r;rfl
 |cons v vs ih=>
  intro xs r
  simp only[VRse]at r
  obtain⟨y,ys,rfl,_,q⟩:=r
  simp[ih q]
theorem VRs.append{F:Addr→Prop}{h:Heap}:∀{vs us:List V}{xs ys:List Value},VRs P.nm F h vs xs→VRs P.nm F h us ys→VRs P.nm F h (vs++us) (xs++ys):=by
 intro xs_
 induction xs_ with
 |nil=>
  intro us xs ys r q
  simp only[VRse]at r;subst r;exact q
 |cons v vs ih=>
  intro us xs ys r q
  simp only[VRse]at r
  obtain⟨y,zs,rfl,p,r⟩:=r
  dsimp only[cM,VRse]
  exact⟨y,zs++ys,rfl,p,ih r q⟩
theorem VRs.get{F:Addr→Prop}{h:Heap}:∀{vs:List V}{xs:List Value}{i:Nat}{v:V},VRs P.nm F h vs xs→vs[i]?=some v→∃x,xs[i]?=some x∧VR P.nm F h v x
 | [],_,_,_,_,e=>by cases e
 |v::vs,xs,0,_,r,e=>by
  simp only[VRse]at r
  obtain⟨y,ys,rfl,p,_⟩:=r
  cases e
  exact⟨y,rfl,p⟩
 |v::vs,xs,i+1,_,r,e=>by
  simp only[VRse]at r
  obtain⟨y,ys,rfl,p,q⟩:=r
  have:=VRs.get q (i:=i) (by simpa using e)
  simpa using this
theorem gW{stk:Addr→Prop}{hp:Hp}{s:af}(ok:HeapOk P stk hp s):Fz stk hp s.heap.objs.size:=fz_of_new ok (by
 cases q:s.heap.get? s.heap.objs.size with
 |none=>rfl
 |some o=>exact absurd (a8 q) (dC _))
theorem cX(h:Heap):h.get? h.objs.size=ac:=by
 cases q:h.get? h.objs.size with
 |none=>rfl
 |some o=>exact absurd (a8 q) (dC _)
theorem gG{stk:Addr→Prop}{hp:Hp}{h h':Heap}(k:∀b o,h.get? b=some o→h'.get? b=some o){vs:List V}{xs:List Value}(r:P.VRs stk hp h vs xs):P.VRs stk hp h' vs xs:=VRs.keep (λa o f g=>⟨f,k a o g⟩) r
theorem qM{stk:Addr→Prop}{hp:Hp}{h h':Heap}(k:∀b o,h.get? b=some o→h'.get? b=some o){v:V}{x:Value}(r:P.VR stk hp h v x):P.VR stk hp h' v x:=VR.keep (λa o f g=>⟨f,k a o g⟩) r
theorem jh{own stk:Addr→Prop}{hp:Hp}{s:af}{vs:List V}{xs:Array Value}{tk:Nat}{n:Nat}{Q:V→Hp→Prop}(ok:HeapOk P stk hp s)(r:P.VRs stk hp s.heap vs xs.toList)(hq:Q (.lst vs) hp):
 PostT P own stk hp s (PV P stk Q) (.ref s.heap.objs.size) {s with heap:=s.heap.push {cls:=.type "list",data:=.seq xs n},toks:=tk}:=by
 have k:∀b o,s.heap.get? b=some o→(s.heap.push {cls:=.type "list",data:=.seq xs n}).get? b=some o:=λb o e=>aj _ e
 refine⟨hp,Ext.grow (stk:=stk) k,ok.grow k,.lst vs,hq,?_⟩
 dsimp only[VRe]
 exact⟨_,xs,rfl,gW ok,⟨n,aq _ rfl⟩,gG k r⟩
theorem tH{own stk:Addr→Prop}{hp:Hp}{s:af}{vs:List V}{xs:Array Value}{tk:Nat}{n:Nat}{Q:V→Hp→Prop}(ok:HeapOk P stk hp s)(r:P.VRs stk hp s.heap vs xs.toList)(hq:Q (.tup vs) hp):
 PostT P own stk hp s (PV P stk Q) (.ref s.heap.objs.size) {s with heap:=s.heap.push {cls:=.type "tuple",data:=.seq xs n},toks:=tk}:=by
 have k:∀b o,s.heap.get? b=some o→(s.heap.push {cls:=.type "tuple",data:=.seq xs n}).get? b=some o:=λb o e=>aj _ e
 refine⟨hp,Ext.grow (stk:=stk) k,ok.grow k,.tup vs,hq,?_⟩
 dsimp only[VRe]
 exact⟨_,xs,rfl,gW ok,⟨n,aq _ rfl⟩,gG k r⟩
theorem here{own stk:Addr→Prop}{hp:Hp}{s:af}{Q:V→Hp→Prop}(ok:HeapOk P stk hp s){v:V}{x:Value}(hq:Q v hp)(r:P.VR stk hp s.heap v x):PostT P own stk hp s (PV P stk Q) x s:=⟨hp,.refl ..,ok,v,hq,r⟩
theorem fV{own stk:Addr→Prop}{hp:Hp}{s:af}{Q:V→Hp→Prop}(ok:HeapOk P stk hp s){v:V}{x:Value}{tk:Nat}(hq:Q v hp)(r:P.VR stk hp s.heap v x):PostT P own stk hp s (PV P stk Q) x {s with toks:=tk}:=⟨hp,.toks _,ok.toks _,v,hq,r⟩
theorem vInt{F:Addr→Prop}{h:Heap}{i:Int}{t:Tok}:VR P.nm F h (.int i) (.int i t):=by simp only[VRe];exact⟨t,rfl⟩
theorem io{F:Addr→Prop}{h:Heap}{b:Bool}:VR P.nm F h (.bool b) (.bool b):=by rfl
theorem vNone{F:Addr→Prop}{h:Heap}:VR P.nm F h .none .none:=by rfl
theorem wf{F:Addr→Prop}{h:Heap}{l:List Nat}{t:Tok}:VR P.nm F h (.str l) (.str ⟨l.toArray⟩ t):=by simp only[VRe];exact⟨t,rfl⟩
theorem rj{F:Addr→Prop}{h:Heap}{a:Addr}:VR P.nm F h (.ref a) (.ref a):=by rfl
theorem jy{nm:Nat→Str}{F:Addr→Prop}{h:Heap}{i:Int}{x:Value}(r:Mine.VR nm F h (.int i) x):∃t,x= .int i t:=by simpa only[VRe]using r
theorem qK{nm:Nat→Str}{F:Addr→Prop}{h:Heap}{l:List Nat}{x:Value}(r:Mine.VR nm F h (.str l) x):∃t,x= .str ⟨l.toArray⟩ t:=by simpa only[VRe]using r
noncomputable def jP:V→Option Int
 | .int i=>some i
 |_=>ac
noncomputable def t6:V→Option (List Nat)
 | .str i=>some i
 |_=>ac
theorem asInt_inv{v:V}{i:Int}(h:jP v=some i):v= .int i:=by cases v<;>cases h;rfl
theorem asStr_inv{v:V}{i:List Nat}(h:t6 v=some i):v= .str i:=by cases v<;>cases h;rfl
noncomputable def bothO{α β:Type}(a:Option α)(b:Option β)(f:α→β→Prop)(g:Prop):Prop:=match a with
 | .none=>g
 |some x=>match b with
  | .none=>g
  |some y=>f x y
theorem bothO_inv{α β:Type}{a:Option α}{b:Option β}{f:α→β→Prop}{g:Prop}(h:bothO a b f g):(∃x y,a=some x∧b=some y∧f x y)∨g:=by
 cases a with
 |none=>exact .inr h
 |some x=>cases b with
  |none=>exact .inr h
  |some y=>exact .inl ⟨x,y,rfl,rfl,h⟩
noncomputable def b2(r:Int→Int→V):B2:=λx y Q hp=>bothO (jP x) (jP y) (λa b=>Q (r a b) hp) False
noncomputable def DY(c:Int→Int→Prop)(r:Int→Int→V):B2:=λx y Q hp=>bothO (jP x) (jP y) (λa b=>c a b∧Q (r a b) hp) False
noncomputable def D0(c:Int→Int→Prop)(r:Int→Int→V)(v u:V)(Q:V→Hp→Prop)(hp:Hp):Prop:=∃i j,v= .int i∧u= .int j∧c i j∧Q (r i j) hp
theorem uJ{c:Int→Int→Prop}{r:Int→Int→V}(v u:V)(Q:V→Hp→Prop)(hp:Hp)(h:DY c r v u Q hp):D0 c r v u Q hp:=by
 rcases bothO_inv h with⟨i,j,e1,e2,h⟩|h
 ·exact⟨i,j,asInt_inv e1,asInt_inv e2,h⟩
 ·exact h.elim
theorem b2_inv{r:Int→Int→V}(v u:V)(Q:V→Hp→Prop)(hp:Hp)(h:b2 r v u Q hp):D0 (λz z=>True) r v u Q hp:=by
 rcases bothO_inv h with⟨i,j,e1,e2,h⟩|h
 ·exact⟨i,j,asInt_inv e1,asInt_inv e2,trivial,h⟩
 ·exact h.elim
theorem okInt{f:Value→Value→Sem Value}{b:B2}{c:Int→Int→Prop}{r:Int→Int→V}(inv:∀v u Q hp,b v u Q hp→D0 c r v u Q hp)
 (op:∀A s G E i j t t',c i j→(∀y tk,(∀F h,VR P.nm F h (r i j) y)→G y {s with toks:=tk})→wpAny P.M A (f (.int i t) (.int j t')) G E s):nh P Fl f b:=by
 intro A s Q X hp stk v u x y rm ok rv ru h
 obtain⟨i,j,rfl,rfl,hc,hq⟩:=inv v u Q hp h
 refine(jy rv).elim λt e1_=>?_;subst e1_
 obtain⟨t',rfl⟩:=jy ru
 exact op A s _ _ i j t t' hc λy tk hy=>fV ok hq (hy _ _)
noncomputable def nk(f:Int→Int→Int):B2:=b2 λa b=>.int (f a b)
noncomputable def d9:B2:=λx y Q hp=>bothO (jP x) (jP y) (λa b=>Q (.int (a+b)) hp)
 (bothO (t6 x) (t6 y) (λa b=>a.length+b.length≤lim∧Q (.str (a++b)) hp)
  (∃xs ys,bL hp x=some xs∧bL hp y=some ys∧xs.length+ys.length≤lim∧Q (.lst (xs++ys)) hp))
theorem vR{A:ax}{s:af}{Q:V→Hp→Prop}{X:XA}{hp:Hp}{stk:Addr→Prop}{v u:V}{x y:Value}{xs ys:List V}(ok:HeapOk P stk hp s)(rv:P.VR stk hp s.heap v x)(ru:P.VR stk hp s.heap u y)(h1:bL hp v=some xs)(h2:bL hp u=some ys)(hl:xs.length+ys.length≤lim)(hq:Q (.lst (xs++ys)) hp):
 T P no1 stk A (binaryOp .Add x y) hp s (PV P stk Q) (lX Fl X):=by
 obtain⟨a,as,rfl,⟨n,pa⟩,ra⟩:=aU ok rv h1
 obtain⟨b,bs,rfl,⟨m,pb⟩,rb⟩:=aU ok ru h2
 refine PySem.P.add_list (n:=n) (n2:=m) pa pb (jh (tk:=s.toks) ok (by rw[ie];exact ra.append rb) hq) ?_
 rw[show as.size=xs.length from ra.length,show bs.size=ys.length from rb.length]
 exact ae hl dZ
theorem yo{v u:V}{Q:V→Hp→Prop}{hp:Hp}(h:d9 v u Q hp):(∃a b,v= .int a∧u= .int b∧Q (.int (a+b)) hp)∨(∃a b,v= .str a∧u= .str b∧a.length+b.length≤lim∧Q (.str (a++b)) hp)∨∃xs ys,bL hp v=some xs∧bL hp u=some ys∧xs.length+ys.length≤lim∧Q (.lst (xs++ys)) hp:=by
 rcases bothO_inv h with⟨i,j,e1,e2,h⟩|h
 ·exact .inl ⟨i,j,asInt_inv e1,asInt_inv e2,h⟩
 ·rcases bothO_inv h with⟨i,j,e1,e2,h⟩|h
  ·exact .inr (.inl ⟨i,j,asStr_inv e1,asStr_inv e2,h⟩)
  ·exact .inr (.inr h)
theorem ok_add:nh P Fl (binaryOp .Add) d9:=by
 intro A s Q X hp stk v u x y rm ok rv ru h
 rcases yo h with⟨a,b,rfl,rfl,h⟩|⟨a,b,rfl,rfl,hl,h⟩|⟨xs,ys,h1,h2,h3,h4⟩
 ·obtain⟨t,rfl⟩:=jy rv
  refine(jy ru).elim λt' e1_=>?_;subst e1_
  exact DM (fV ok h vInt)
 ·refine(qK rv).elim λt e1_=>?_;subst e1_
  refine(qK ru).elim λt' e1_=>?_;subst e1_
  refine DL (λt' tk=>fV (v:=.str (a++b)) ok h ?_) (ae hl dZ)
  have:(⟨a.toArray⟩:Str)++⟨b.toArray⟩=⟨(a++b).toArray⟩:=by
   show Es _ _=_
   simp[Es]
  rw[this];exact wf
 ·exact vR ok rv ru h1 h2 h3 h4
theorem sR:nh P Fl (binaryOp .Sub) (nk (·- ·)):=okInt b2_inv λA s G E i j t t' z k=>DB (k _ _ λz z=>vInt)
noncomputable def small(a:Int):Prop:= -(2 ^ 64)<a∧a<2 ^ 64
theorem vh{A:ax}{s:af}{G:Value→af→Prop}{E:Value→af→Prop}{i j:Int}{t t':Tok}(h:small i∨small j)(k:∀y tk,(∀F h,VR P.nm F h (.int (i*j)) y)→G y {s with toks:=tk}):wpAny P.M A (binaryOp .Mult (.int i t) (.int j t')) G E s:=
 DF (k _ _ λz z=>vInt) (h.elim (λq=>F9 (Fd q.1 q.2)) λq=>F8 (Fd q.1 q.2))
noncomputable def n7:B2:=DY (λz b=>b≠0) λa b=>.int (a.fmod b)
theorem k8:nh P Fl (binaryOp .Mod) n7:=okInt uJ λA s G E i j t t' h k=>DG h (k _ _ λz z=>vInt)
theorem pK{x y:Int}(h:x.natAbs<1073741824):nG x y=false:=by
 unfold nG
 have:(if x==0 then 0 else x.natAbs.log2 / 30+1)≤1:=by
  split
  ·omega
  ·rename_i hx
   have hx0:x.natAbs≠0:=by intro e;apply hx;simp;omega
   have:x.natAbs.log2<30:=(Nat.log2_lt hx0).mpr (by omega)
   omega
 simp only[Bool.and_eq_false_iff,decide_eq_false_iff_not]
 right
 omega
noncomputable def uX:B2:=DY (λa b=>b≠0∧(a.natAbs<1073741824∨b.natAbs<1073741824)) λa b=>.int (a.fdiv b)
theorem sT:nh P Fl (binaryOp .FloorDiv) uX:=okInt uJ λA s G E i j t t' h k=>DK h.1 (k _ _ λz z=>vInt) (.inl (h.2.elim pK PyProof.noPylong_small))
noncomputable def k4(f:Int→Int→Bool):B2:=b2 λa b=>.bool (f a b)
theorem Ct:nh P Fl (compareOp .Lt) (k4 λa b=>decide (a<b)):=okInt b2_inv λA s G E i j t t' z k=>DH (k _ s.toks λz z=>io)
theorem Ac:nh P Fl (compareOp .LtE) (k4 λa b=>decide (a≤b)):=okInt b2_inv λA s G E i j t t' z k=>DI (k _ s.toks λz z=>io)
theorem ok_ge:nh P Fl (compareOp .GtE) (k4 λa b=>decide (b≤a)):=okInt b2_inv λA s G E i j t t' z k=>DJ (k _ s.toks λz z=>io)
noncomputable def sV:V→Option Bool
 | .none=>some true
 | .bool _=>some false
 | .int _=>some false
 | .lst _=>some false
 | .tup _=>some false
 | .ref _=>some false
 |_=>ac
noncomputable def qy(b:Bool):V→Option Bool
 | .none=>some false
 | .bool a=>some (a==b)
 | .int _=>some false
 | .lst _=>some false
 | .ref _=>some false
 |_=>ac
noncomputable def gC(v:V):V→Option Bool
 | .none=>sV v
 | .bool b=>qy b v
 |_=>ac
noncomputable def AE:B2:=λx y Q hp=>∃b,gC x y=some b∧Q (.bool b) hp
noncomputable def ix:B2:=λx y Q hp=>∃b,gC x y=some b∧Q (.bool (!b)) hp
theorem oneReal{F:Addr→Prop}{h:Heap}{v:V}{x:Value}{b:Bool}(r:VR P.nm F h v x)(c:sV v=some b∨∃q,qy q v=some b):(v= .none∧x= .none)∨(∃q,v= .bool q∧x= .bool q)∨(∃a,x= .ref a∧sV v=some false∧∀q,qy q v=some false∨qy q v=ac)∨∃i t,v= .int i∧x= .int i t:=by
 cases v<;>simp only[VRe]at r
 case none=>exact .inl ⟨rfl,r⟩
 case bool=>exact .inr (.inl ⟨_,rfl,r⟩)
 case int=>exact .inr (.inr (.inr ⟨_,r.choose,rfl,r.choose_spec⟩))
 case lst=>obtain⟨a,_,rfl,_⟩:=r;exact .inr (.inr (.inl ⟨a,rfl,rfl,λz=>.inl rfl⟩))
 case tup=>obtain⟨a,_,rfl,_⟩:=r;exact .inr (.inr (.inl ⟨a,rfl,rfl,λz=>.inr rfl⟩))
 case ref=>subst r;exact .inr (.inr (.inl ⟨_,rfl,rfl,λz=>.inl rfl⟩))
 all_goals (rcases c with c|⟨q,c⟩<;>cases c)
theorem isOne_plain{F:Addr→Prop}{h:Heap}{v u:V}{x y:Value}{b:Bool}(rv:VR P.nm F h v x)(ru:VR P.nm F h u y)(e:gC v u=some b):plainIs x y=true∧(x==y)=b:=by
 cases u with
 |none=>
  have hy:y= .none:=by simpa only[VRe]using ru
  subst hy
  rcases oneReal rv (.inl e)with⟨rfl,rfl⟩|⟨q,rfl,rfl⟩|⟨a,rfl,h1,_⟩|⟨i,t,rfl,rfl⟩
  ·cases e;exact⟨rfl,rfl⟩
  ·cases e;exact⟨rfl,rfl⟩
  ·cases h1.symm.trans e;exact⟨rfl,rfl⟩
  ·cases e;exact⟨rfl,rfl⟩
 |bool q=>
  have hy:y= .bool q:=by simpa only[VRe]using ru
  subst hy
  rcases oneReal rv (.inr ⟨q,e⟩)with⟨rfl,rfl⟩|⟨p,rfl,rfl⟩|⟨a,rfl,_,h1⟩|⟨i,t,rfl,rfl⟩
  ·cases e;exact⟨rfl,rfl⟩
  ·cases e;refine⟨rfl,?_⟩;cases p<;>cases q<;>rfl
  ·rcases h1 q with h1|h1<;>cases h1.symm.trans e
   exact⟨rfl,rfl⟩
  ·cases e;exact⟨rfl,rfl⟩
 |_=>cases e
theorem ok_is:nh P Fl (compareOp .Is) AE:=by
 intro A s Q X hp stk v u x y rm ok rv ru i1_;refine i1_.elim λb r2_=>r2_.elim λe hq=>?_
 obtain⟨p,q⟩:=isOne_plain rv ru e
 exact Em p (by rw[q];exact here ok hq io)
theorem ok_isNot:nh P Fl (compareOp .IsNot) ix:=by
 intro A s Q X hp stk v u x y rm ok rv ru i1_;refine i1_.elim λb r2_=>r2_.elim λe hq=>?_
 obtain⟨p,q⟩:=isOne_plain rv ru e
 exact wpAny_isNot_plain p (by rw[q];exact here ok hq io)
end Mine
namespace Mine
variable{P:cH}{Fl:f9}
mutual
noncomputable def sH:V→Option PyData
 | .none=>some .none
 | .bool b=>some (.bool b)
 | .int i=>some (.int i)
 | .str l=>some (.str ⟨l.toArray⟩)
 | .tup vs=>(iO vs).map .tuple
 | .lst vs=>(iO vs).map .list
 |_=>ac
noncomputable def iO:List V→Option (List PyData)
 | []=>some []
 |v::vs=>(sH v).bind λd=>(iO vs).map (d::·)
end
noncomputable def pR(hp:Hp)(a:Addr):Option (List V):=match hp a with
 |some (.lst vs)=>some vs
 |_=>ac
theorem xE{hp:Hp}{a:Addr}{vs:List V}(h:hp a=some (.lst vs)):pR hp a=some vs:=by unfold pR;rw[h]
theorem xF{hp:Hp}{a:Addr}{vs:List V}(h:pR hp a=some vs):hp a=some (.lst vs):=by
 unfold pR at h
 revert h
 cases hp a with
 |none=>intro h;cases h
 |some o=>cases o<;>intro h<;>cases h;rfl
noncomputable def toD(hp:Hp):V→Option PyData
 | .ref a=>((pR hp a).bind iO).map .list
 |v=>sH v
mutual
theorem wH{F:Addr→Prop}{h:Heap}:∀{v:V}{x:Value}{d:PyData},VR P.nm F h v x→sH v=some d→∃as,Reads h x d as
 | .none,x,d,r,e=>by cases r;cases e;exact⟨_,.none⟩
 | .bool b,x,d,r,e=>by cases r;cases e;exact⟨_,.bool _⟩
 | .int i,x,d,r,e=>by obtain⟨t,rfl⟩:=r;cases e;exact⟨_,.int _ _⟩
 | .str l,x,d,r,e=>by obtain⟨t,rfl⟩:=r;cases e;exact⟨_,.str _ _⟩
 | .tup vs,x,d,r,e=>by
   obtain⟨a,xs,rfl,_,⟨n,g⟩,q⟩:=r
   obtain⟨ds,hds,rfl⟩:=d8.mp e
   obtain⟨as,z⟩:=reads0s q hds
   exact⟨_,.tuple g rfl rfl z⟩
 | .lst vs,x,d,r,e=>by
   obtain⟨a,xs,rfl,_,⟨n,g⟩,q⟩:=r
   obtain⟨ds,hds,rfl⟩:=d8.mp e
   obtain⟨as,z⟩:=reads0s q hds
   exact⟨_,.list g rfl rfl z⟩
 | .obj C fs,x,d,r,e=>by cases e
 | .ref a,x,d,r,e=>by cases e
 | .fn y,x,d,r,e=>by cases e
 | .rng lo hi,x,d,r,e=>by cases e
 | .vals _ y,x,d,r,e=>by cases e
 | .nxt y,x,d,r,e=>by cases e
theorem reads0s{F:Addr→Prop}{h:Heap}:∀{vs:List V}{xs:List Value}{ds:List PyData},VRs P.nm F h vs xs→iO vs=some ds→∃as,ReadsAll h xs ds as
 | [],xs,ds,r,e=>by cases r;cases e;exact⟨_,.nil⟩
 |v::vs,xs,ds,r,e=>by
  obtain⟨y,ys,rfl,p,q⟩:=r
  obtain⟨d,h1,h3⟩:=jq.mp e
  obtain⟨ds',h2,rfl⟩:=d8.mp h3
  obtain⟨as,z⟩:=wH p h1
  obtain⟨bs,z'⟩:=reads0s q h2
  exact⟨_,.cons z z'⟩
end
theorem mx{stk:Addr→Prop}{hp:Hp}{s:af}{v:V}{x:Value}{d:PyData}(ok:HeapOk P stk hp s)(r:P.VR stk hp s.heap v x)(e:toD hp v=some d):∃as,Reads s.heap x d as:=by
 cases v with
 |ref a=>
  cases r
  obtain⟨ds,h1,rfl⟩:=d8.mp e
  obtain⟨vs,hv,hds⟩:=jq.mp h1
  refine(ok.obj a _ (xF hv)).elim λxs r1_=>r1_.elim λe2_ q=>e2_.elim λn g=>?_
  obtain⟨as,z⟩:=reads0s q hds
  exact⟨_,.list g rfl rfl z⟩
 |_=>exact wH r e
noncomputable def nZ:B2:=λx y Q hp=>∃a b,toD hp x=some a∧toD hp y=some b∧bu a=true∧bu b=true∧Q (.bool (cf a b)) hp
noncomputable def tX:B2:=λx y Q hp=>∃a b,toD hp x=some a∧toD hp y=some b∧bu a=true∧bu b=true∧Q (.bool (!cf a b)) hp
theorem ok_eq:nh P Fl (compareOp .Eq) nZ:=by
 rintro A s Q X hp stk v u x y rm ok rv ru ⟨a,b,e1,e2,s1,s2,hq⟩
 obtain⟨as,r1⟩:=mx ok rv e1
 obtain⟨bs,r2⟩:=mx ok ru e2
 exact eq_dataH r1 r2 s1 s2 (by have:=rm.units;lia) (here ok hq io)
theorem ok_ne:nh P Fl (compareOp .NotEq) tX:=by
 rintro A s Q X hp stk v u x y rm ok rv ru ⟨a,b,e1,e2,s1,s2,hq⟩
 obtain⟨as,r1⟩:=mx ok rv e1
 obtain⟨bs,r2⟩:=mx ok ru e2
 exact ne_dataH r1 r2 s1 s2 (by have:=rm.units;lia) (here ok hq io)
noncomputable def AL(hp:Hp)(x c:V)(r:Bool):Prop:=∃ds d,toD hp c=some (.list ds)∧toD hp x=some d∧bu (.list ds)=true∧bu d=true∧r=ds.any (λy=>cf y d)
noncomputable def inO(hp:Hp)(x:V)(a:Addr)(r:Bool):Option O→Prop
 |some (.dict es _)=>∃k,x= .int k∧r=es.any (λe=>decide (e.1=k))
 |some (.set xs)=>∃k,x= .int k∧r=decide (k∈xs)
 |_=>AL hp x (.ref a) r
noncomputable def t3(hp:Hp)(x c:V)(r:Bool):Prop:=match c with
 | .ref a=>inO hp x a r (hp a)
 |c=>AL hp x c r
theorem inRes_o{hp:Hp}{x:V}{a:Addr}{r:Bool}{o:O}(h:hp a=some o):t3 hp x (.ref a) r=inO hp x a r (some o):=congrArg (inO hp x a r) h
noncomputable def AF:B2:=λx c Q hp=>∃r,t3 hp x c r∧Q (.bool r) hp
noncomputable def tm:B2:=λx c Q hp=>∃r,t3 hp x c r∧Q (.bool (!r)) hp
theorem xh{F:Addr→Prop}{h:Heap}{k:Int}:∀{es:List (Int×V)}{kvs:List (Int×Value)},ER P.nm F h es kvs→(valueAt kvs k).isSome=es.any (λe=>decide (e.1=k))
 | [],kvs,r=>by cases r;rfl
 |(i,v)::es,kvs,r=>by
  obtain⟨y,ys,rfl,_,q⟩:=r
  have ih:=xh (k:=k) q
  dsimp only[valueAt,dO,jo]at ih⊢
  by_cases hk:i=k
  ·simp[hk]
  ·simp only[hk,decide_false,Bz]
   exact ih
theorem ku{stk:Addr→Prop}{hp:Hp}{s:af}(ok:HeapOk P stk hp s){a:Addr}{o:O}(h:hp a=some o)(hz:(P.H₀.get? sysModules).isSome=true):(a==sysModules)=false:=by
 cases q:a==sysModules with
 |false=>rfl
 |true=>
  have:a=sysModules:=by simpa using q
  subst this
  have:=ok.new _ (by rw[h];intro z;cases z)
  rw[this]at hz;cases hz
theorem in_core(hz:(P.H₀.get? sysModules).isSome=true){A:ax}{s:af}{hp:Hp}{stk:Addr→Prop}{v u:V}{x y:Value}{r:Bool}(rm:dY 0 A)(ok:HeapOk P stk hp s)(rv:P.VR stk hp s.heap v x)(ru:P.VR stk hp s.heap u y)(h:t3 hp v u r):
 (∀(Q:Value→af→Prop) E,(∀n,Q (.bool r) {s with toks:=n})→wpAny P.M A (compareOp .In x y) Q E s)∧(∀(Q:Value→af→Prop) E,(∀n,Q (.bool (!r)) {s with toks:=n})→wpAny P.M A (compareOp .NotIn x y) Q E s):=by
 have lists:AL hp v u r→(∀(Q:Value→af→Prop) E,(∀n,Q (.bool r) {s with toks:=n})→wpAny P.M A (compareOp .In x y) Q E s)∧(∀(Q:Value→af→Prop) E,(∀n,Q (.bool (!r)) {s with toks:=n})→wpAny P.M A (compareOp .NotIn x y) Q E s):=by
  rintro⟨ds,d,e1,e2,s1,s2,rfl⟩
  obtain⟨as,r1⟩:=mx ok ru e1
  refine(mx ok rv e2).elim λbs r2=>?_
  have c1:eJ ds=true:=by have:=gf s1;simpa[dD]using this
  have rr:=room_in_shaped (A:=A) (xs:=ds) s2 (by have:=rm.units;lia)
  exact⟨λQ E q=>SeqAt.in_list_reads r1 r2 c1 (gf s2) rr (q s.toks),λQ E q=>SeqAt.notIn_list_reads r1 r2 c1 (gf s2) rr (q s.toks)⟩
 cases u with
 |ref a=>
  cases ru
  change inO hp v a r (hp a)at h
  obtain he|⟨o,he⟩:hp a=ac∨∃o,hp a=some o:=by cases hp a with|none=>exact .inl rfl|some o=>exact .inr ⟨o,rfl⟩
  ·rw[he]at h;exact lists h
  rw[he]at h
  cases o with
  |dict es ep=>
   obtain⟨k,rfl,rfl⟩:=h
   obtain⟨t,rfl⟩:=rv
   refine(ok.obj a _ he).elim λkvs r1_=>r1_.elim λhd er=>?_
   replace hd:=hd.dictOf
   have hs:=ku ok he hz
   have hk:(intKind P.prog P.w).is k (.int k t)=true:=jA _ _ _ _
   rw[←xh er]
   refine⟨λQ E q=>wpAny_in_of hk hs hd.mapOf (q _),λQ E q=>wpAny_notIn_of hk hs hd.mapOf (q _)⟩
  |set xs=>
   obtain⟨k,rfl,rfl⟩:=h
   refine rv.elim λt e1_=>?_;subst e1_
   have hd:=ok.obj a _ he
   have hk:(intKind P.prog P.w).is k (.int k t)=true:=jA _ _ _ _
   exact⟨λQ E q=>wpAny_inSet_of hk rfl hd (q _),λQ E q=>wpAny_notInSet_of hk rfl hd (q _)⟩
  |_=>exact lists h
 |_=>exact lists h
theorem ok_in(hz:(P.H₀.get? sysModules).isSome=true):nh P Fl (compareOp .In) AF:=by
 rintro A s Q X hp stk v u x y rm ok rv ru ⟨r,h,hq⟩
 exact(in_core hz rm ok rv ru h).1 _ _ λn=>fV ok hq io
theorem ok_notIn(hz:(P.H₀.get? sysModules).isSome=true):nh P Fl (compareOp .NotIn) tm:=by
 rintro A s Q X hp stk v u x y rm ok rv ru ⟨r,h,hq⟩
 exact(in_core hz rm ok rv ru h).2 _ _ λn=>fV ok hq io
end Mine
namespace Mine
noncomputable abbrev DT:=(Bool→Hp→Prop)→XA→aZ→Hp→Prop
noncomputable def SimT(P:cH)(Fl:f9)(d:Nat)(sc:Scope)(e:Expr)(D:DT):Prop:=
 ∀(A:ax)(env:Env)(s:af)(Q:Bool→Hp→Prop)(X:XA)(loc:aZ)(hp:Hp)(stk:Addr→Prop),
  dY d A→env.scope=sc→EnvOk P A stk hp env loc s→HeapOk P stk hp s→D Q X loc hp→
  T P no1 stk A (isTrue e env (eval e env)) hp s (λb hp' s'=>Q b hp') (lX Fl X)
variable{P:cH}{Fl:f9}{d:Nat}{sc:Scope}
noncomputable def eR(hp:Hp):V→Option Bool
 | .none=>some false
 | .bool b=>some b
 | .int i=>some (i !=0)
 | .lst vs=>some (!vs.isEmpty)
 | .ref a=>match hp a with
   |some (.lst vs)=>some (!vs.isEmpty)
   |_=>ac
 |_=>ac
theorem pY{A:ax}{s:af}{Q:Bool→Hp→Prop}{X:XP}{hp:Hp}{stk:Addr→Prop}{v:V}{x:Value}{b:Bool}(ok:HeapOk P stk hp s)(r:P.VR stk hp s.heap v x)(e:eR hp v=some b)
 (hsz:∀vs,bL hp v=some vs→vs.length≤lim)(hq:Q b hp):T P no1 stk A (truthy x) hp s (λb hp' s'=>Q b hp') X:=by
 have lists:∀vs,bL hp v=some vs→b= !vs.isEmpty→T P no1 stk A (truthy x) hp s (λb hp' s'=>Q b hp') X:=by
  intro vs hv hb
  obtain⟨a,xs,rfl,p,q⟩:=aU ok r hv
  have hl:=q.length
  have hn:=hsz vs hv
  have:xs.size=xs.toList.length:=by simp
  refine BH p.isList ?_ ⟨hp,.toks _,ok.toks _,?_⟩
  ·unfold lim at hn;lia
  ·have:(!xs.isEmpty)=b:=by
    rw[hb]
    cases vs with
    |nil=>have:xs= #[]:=by apply nH;rw[this,hl];rfl
          rw[this];rfl
    |cons v vs=>
     have:xs.isEmpty=false:=by
      rw[pO]
      intro e0;rw[e0]at hl;simp at hl
     rw[this];rfl
   rw[this];exact hq
 cases v with
 |none=>cases r;cases e;exact wpAny_of_eq (a:=false) rfl ⟨hp,.refl ..,ok,hq⟩
 |bool c=>cases r;cases e;exact wpAny_truthy_bool ⟨hp,.refl ..,ok,hq⟩
 |int i=>obtain⟨t,rfl⟩:=r;cases e;exact Dz ⟨hp,.refl ..,ok,hq⟩
 |lst vs=>cases e;exact lists vs rfl rfl
 |ref a=>
  have e':(match hp a with|some (.lst vs)=>some (!vs.isEmpty)|_=>ac)=some b:=e
  cases hv:hp a with
  |none=>rw[hv]at e';cases e'
  |some o=>
   cases o with
   |lst vs=>rw[hv]at e';cases e';exact lists vs (listOf_ref hv) rfl
   |_=>rw[hv]at e';cases e'
 |_=>cases e
noncomputable def kL(t:DE):DT:=λQ X loc hp=>t (λv hp1=>∃b,eR hp1 v=some b∧(∀vs,bL hp1 v=some vs→vs.length≤lim)∧Q b hp1) X loc hp
theorem SimT.val{e:Expr}{D:DE}(h:bz P Fl d sc e D)(he:∀env whole,isTrue e env whole=(do let v←whole;standAt e.pos;holding [v] (truthy v))):SimT P Fl d sc e (kL D):=by
 intro A env s Q X loc hp stk rm hs ev ok hD
 refine wpAny_isTrue_value ?_ (he env _)
 exact(h A env s _ X loc hp stk rm hs ev ok hD).thn (by rintro a hp1 s1 e1 ok1 ⟨v,⟨b,tb,hsz,q⟩,r⟩;exact T.nxt e1 (pY ok1 r tb hsz q))
noncomputable def cF(b:B2)(l r:DE):DT:=λQ X loc hp=>l (λx hp1=>r (λy hp2=>b x y (λv hp3=>∃c,v= .bool c∧Q c hp3) hp2) X loc hp1) X loc hp
theorem SimT.cmp{l r:Expr}{op:CmpOp}{pos:Pos}{dl dr:DE}{b:B2}(hb:nh P Fl (compareOp op) b)(hl:bz P Fl d sc l dl)(hr:bz P Fl d sc r dr)(hm:behindInMarks op r=false:=by rfl):SimT P Fl d sc (.Compare l [op] [r] pos) (cF b dl dr):=by
 intro A env s Q X loc hp stk rm hs ev ok h
 refine wpAny_isTrue_Compare1 ?_ hm
 refine(hl A env s _ X loc hp stk rm hs ev ok h).thn λa hp1 s1 e1 ok1 hq=>?_
 obtain⟨v,q1,r1⟩:=hq
 refine wpAny_mono (hr A env s1 _ X loc hp1 stk rm hs (ev.step ok e1) ok1 q1) (λy s2 hq=>?_) λx x z=>z.back P e1
 obtain⟨hp2,e2,ok2,u,q2,r2⟩:=hq
 refine wpAny_mono (hb A s2 _ X hp2 stk v u a y (rm.less (aD _)) ok2 (d5 e2 r1) r2 q2) (λz s3 hq=>?_) λx x z=>z.back P (e1.trans e2)
 obtain⟨hp3,e3,ok3,t,⟨c,ht,q3⟩,r3⟩:=hq
 subst ht
 cases r3
 exact wpAny_truthy_bool ⟨hp3,(e1.trans e2).trans e3,ok3,q3⟩
noncomputable abbrev DTs:=(Bool→Hp→Prop)→XA→aZ→Hp→Prop
noncomputable def gS(P:cH)(Fl:f9)(d:Nat)(sc:Scope)(op:BoolOp)(es:List Expr)(D:DTs):Prop:=
 ∀(A:ax)(env:Env)(s:af)(Q:Bool→Hp→Prop)(X:XA)(loc:aZ)(hp:Hp)(stk:Addr→Prop),
  dY d A→env.scope=sc→EnvOk P A stk hp env loc s→HeapOk P stk hp s→D Q X loc hp→
  T P no1 stk A (allTrue op es env) hp s (λb hp' s'=>Q b hp') (lX Fl X)
noncomputable def ni(a b:DT):DT:=λQ X loc hp=>a (λc hp1=>if c then b Q X loc hp1 else Q false hp1) X loc hp
noncomputable def yz(a b:DT):DT:=λQ X loc hp=>a (λc hp1=>if c then Q true hp1 else b Q X loc hp1) X loc hp
theorem gS.andNil:gS P Fl d sc .And [] (λQ z z hp=>Q true hp):=λA env s Q X loc hp stk rm hs ev ok hD=>wpAny_allTrue_And_nil ⟨hp,.refl ..,ok,hD⟩
theorem gS.orNil:gS P Fl d sc .Or [] (λQ z z hp=>Q false hp):=λA env s Q X loc hp stk rm hs ev ok hD=>wpAny_allTrue_Or_nil ⟨hp,.refl ..,ok,hD⟩
theorem gS.and{e:Expr}{es:List Expr}{a b:DT}(h:SimT P Fl d sc e a)(hr:gS P Fl d sc .And es b):gS P Fl d sc .And (e::es) (ni a b):=by
 intro A env s Q X loc hp stk rm hs ev ok hD
 refine wpAny_allTrue_And_cons ((h A env s _ X loc hp stk rm hs ev ok hD).thn λc hp1 s1 e1 ok1 q=>?_)
 cases c with
 |true=>exact T.nxt e1 (hr A env s1 Q X loc hp1 stk rm hs (ev.step ok e1) ok1 q)
 |false=>exact⟨hp1,e1,ok1,q⟩
theorem gS.or{e:Expr}{es:List Expr}{a b:DT}(h:SimT P Fl d sc e a)(hr:gS P Fl d sc .Or es b):gS P Fl d sc .Or (e::es) (yz a b):=by
 intro A env s Q X loc hp stk rm hs ev ok hD
 refine wpAny_allTrue_Or_cons ((h A env s _ X loc hp stk rm hs ev ok hD).thn λc hp1 s1 e1 ok1 q=>?_)
 cases c with
 |true=>exact⟨hp1,e1,ok1,q⟩
 |false=>exact T.nxt e1 (hr A env s1 Q X loc hp1 stk rm hs (ev.step ok e1) ok1 q)
theorem SimT.and2{x y:Expr}{pos:Pos}{a b:DT}(hx:SimT P Fl d sc x a)(hy:SimT P Fl d sc y b):SimT P Fl d sc (.BoolOp .And [x,y] pos) (ni a (ni b λQ z z hp=>Q true hp)):=
 λA env s Q X loc hp stk rm hs ev ok hD=>Aq (gS.and hx (gS.and hy gS.andNil) A env s Q X loc hp stk rm hs ev ok hD)
theorem SimT.or2{x y:Expr}{pos:Pos}{a b:DT}(hx:SimT P Fl d sc x a)(hy:SimT P Fl d sc y b):SimT P Fl d sc (.BoolOp .Or [x,y] pos) (yz a (yz b λQ z z hp=>Q false hp)):=
 λA env s Q X loc hp stk rm hs ev ok hD=>Aq (gS.or hx (gS.or hy gS.orNil) A env s Q X loc hp stk rm hs ev ok hD)
noncomputable def uV(t:DT)(a b:DE):DE:=λQ X loc hp=>t (λc hp1=>if c then a Q X loc hp1 else b Q X loc hp1) X loc hp
theorem Sim.ite{t a b:Expr}{pos:Pos}{dt:DT}{da db:DE}(ht:SimT P Fl d sc t dt)(ha:bz P Fl d sc a da)(hb:bz P Fl d sc b db):bz P Fl d sc (.IfExp t a b pos) (uV dt da db):=by
 intro A env s Q X loc hp stk rm hs ev ok hD
 refine wpAny_IfExp ((ht A env s _ X loc hp stk rm hs ev ok hD).thn λc hp1 s1 e1 ok1 q=>?_)
 cases c with
 |true=>exact T.nxt e1 (ha A env s1 Q X loc hp1 stk rm hs (ev.step ok e1) ok1 q)
 |false=>exact T.nxt e1 (hb A env s1 Q X loc hp1 stk rm hs (ev.step ok e1) ok1 q)
noncomputable def AT(a:DE):DE:=λQ X loc hp=>a (λv hp1=>∃i,v= .int i∧Q (.int (-i)) hp1) X loc hp
theorem Sim.neg{a:Expr}{pos:Pos}{da:DE}(ha:bz P Fl d sc a da):bz P Fl d sc (.UnaryOp .USub a pos) (AT da):=by
 intro A env s Q X loc hp stk rm hs ev ok hD
 refine wpAny_UnaryOp ((ha A env s _ X loc hp stk rm hs ev ok hD).thn λx hp1 s1 e1 ok1 hq=>?_)
 obtain⟨v,⟨i,hv,q⟩,r⟩:=hq
 subst hv
 obtain⟨t,rfl⟩:=r
 exact DD ⟨hp1,e1.trans (.toks _),ok1.toks _,_,q,vInt⟩
noncomputable def AS(a b:DE):DE:=λQ X loc hp=>a (λv hp1=>∃c,eR hp1 v=some c∧(∀vs,bL hp1 v=some vs→vs.length≤lim)∧if c then Q v hp1 else b Q X loc hp1) X loc hp
theorem Sim.or2{x y:Expr}{pos:Pos}{a b:DE}(hx:bz P Fl d sc x a)(hy:bz P Fl d sc y b):bz P Fl d sc (.BoolOp .Or [x,y] pos) (AS a b):=by
 intro A env s Q X loc hp stk rm hs ev ok hD
 refine wpAny_Or2 ((hx A env s _ X loc hp stk rm hs ev ok hD).thn λx hp1 s1 e1 ok1 hq=>?_)
 obtain⟨v,⟨c,tc,hsz,q⟩,r⟩:=hq
 refine wpAny_mono (pY (Q:=λb hp'=>b=c∧hp'=hp1) (X:=lX Fl X) ok1 r tc hsz ⟨rfl,rfl⟩) (λb s2 hq=>?_) λw w z=>z.back P e1
 obtain⟨hp2,e2,ok2,hb,hh⟩:=hq
 subst hb hh
 cases b with
 |true=>exact⟨_,e1.trans e2,ok2,v,q,d5 e2 r⟩
 |false=>exact T.nxt (e1.trans e2) (hy A env s2 Q X loc _ stk rm hs (ev.step ok (e1.trans e2)) ok2 q)
end Mine
namespace Mine
noncomputable abbrev kS:=(List V→Hp→Prop)→XA→aZ→Hp→Prop
noncomputable def SimA(P:cH)(Fl:f9)(d:Nat)(sc:Scope)(pos:Pos)(es:List Expr)(D:kS):Prop:=
 ∀(A:ax)(env:Env)(s:af)(Q:List V→Hp→Prop)(X:XA)(loc:aZ)(hp:Hp)(stk:Addr→Prop),
  dY d A→env.scope=sc→EnvOk P A stk hp env loc s→HeapOk P stk hp s→D Q X loc hp→
  T P no1 stk A (spliced (backTo pos (starEach es env))) hp s (λxs hp' s'=>∃vs,Q vs hp'∧P.VRs stk hp' s'.heap vs xs) (lX Fl X)
variable{P:cH}{Fl:f9}{d:Nat}{sc:Scope}
theorem vNil{F:Addr→Prop}{h:Heap}:VRs P.nm F h [] []:=by rfl
theorem vCons{F:Addr→Prop}{h:Heap}{v:V}{vs:List V}{x:Value}{xs:List Value}(a:VR P.nm F h v x)(b:VRs P.nm F h vs xs):VRs P.nm F h (v::vs) (x::xs):=by simp only[VRse];exact⟨x,xs,rfl,a,b⟩
noncomputable def aF:kS:=λQ z z hp=>Q [] hp
noncomputable def av(e:DE)(r:kS):kS:=λQ X loc hp=>e (λv hp1=>r (λvs hp2=>Q (v::vs) hp2) X loc hp1) X loc hp
theorem SimA.nil{pos:Pos}:SimA P Fl d sc pos [] aF:=λA env s Q X loc hp stk rm hs ev ok hD=>Calls.spliced_nil ⟨hp,.refl ..,ok,[],hD,vNil⟩
theorem SimA.cons{pos:Pos}{e:Expr}{es:List Expr}{D:DE}{R:kS}(h:bz P Fl d sc e D)(hr:SimA P Fl d sc pos es R)(he:∀env,starEach (e::es) env=(false,eval e env)::starEach es env:=by exact λy=>rfl):SimA P Fl d sc pos (e::es) (av D R):=by
 intro A env s Q X loc hp stk rm hs ev ok hD
 rw[he env]
 refine Calls.spliced_cons ((h A env s _ X loc hp stk rm hs ev ok hD).thn λx hp1 s1 e1 ok1 hq=>?_)
 obtain⟨v,q1,r1⟩:=hq
 refine wpAny_mono (hr A env s1 _ X loc hp1 stk rm hs (ev.step ok e1) ok1 q1) (λxs s2 hq=>?_) λy y z=>z.back P e1
 obtain⟨hp2,e2,ok2,vs,q2,r2⟩:=hq
 exact⟨hp2,e1.trans e2,ok2,v::vs,q2,vCons (d5 e2 r1) r2⟩
noncomputable def jx(hp:Hp):V→Option (List V)
 | .tup vs=>some vs
 |v=>bL hp v
theorem qW{stk:Addr→Prop}{hp:Hp}{s:af}{v:V}{x:Value}{vs:List V}(ok:HeapOk P stk hp s)(r:P.VR stk hp s.heap v x)(h:jx hp v=some vs):
 ∃a xs T n,x= .ref a∧(T= "list" ∨T= "tuple")∧s.heap.get? a=some {cls:=.type T,data:=.seq xs n}∧P.VRs stk hp s.heap vs xs.toList:=by
 cases v with
 |tup us=>cases h;obtain⟨a,xs,rfl,_,⟨n,g⟩,q⟩:=r;exact⟨a,xs,_,n,rfl,.inr rfl,g,q⟩
 |lst us=>obtain⟨a,xs,rfl,⟨n,g⟩,q⟩:=aU ok r h;exact⟨a,xs,_,n,rfl,.inl rfl,g,q⟩
 |ref b=>obtain⟨a,xs,rfl,⟨n,g⟩,q⟩:=aU ok r h;exact⟨a,xs,_,n,rfl,.inl rfl,g,q⟩
 |_=>cases h
theorem star_items{A:ax}{s:af}{hp:Hp}{stk:Addr→Prop}{v:V}{x:Value}{vs:List V}{Q:List Value→af→Prop}{E:Value→af→Prop}(ok:HeapOk P stk hp s)(r:P.VR stk hp s.heap v x)(h:jx hp v=some vs)(hl:vs.length≤lim)
 (hq:∀xs h',(∀b o,s.heap.get? b=some o→h'.get? b=some o)→P.VRs stk hp h' vs xs→Q xs {s with heap:=h'}):StarOf P.M A E x Q s:=by
 obtain⟨a,xs,T,n,rfl,hT,g,q⟩:=qW ok r h
 have hz:xs.size≤sizeLine:=by have h1:=q.length;have h2:xs.size=xs.toList.length:=rfl
                              have:=dZ;lia
 have z:wpAny P.M A (collect (.ref a)) Q E s:=BK a hT g rfl rfl (λh' k=>hq _ h' k (gG k q)) hz
 have hT':s.TypeIs (.ref a) T:=⟨_,g,rfl⟩
 delta StarOf notIterableAtAll
 rcases hT with rfl|rfl
 ·exact wpAny_bind (wpAny_specialOf hT' PySem.F.slot_list_iter.lookup (wpAny_pure ⟨rfl,z⟩))
 ·exact wpAny_bind (wpAny_specialOf hT' PySem.F.slot_tuple_iter.lookup (wpAny_pure ⟨rfl,z⟩))
noncomputable def rE(e:DE)(r:kS):kS:=λQ X loc hp=>e (λv hp1=>∃us,jx hp1 v=some us∧us.length≤lim∧r (λvs hp2=>Q (us++vs) hp2) X loc hp1) X loc hp
theorem SimA.star{pos p:Pos}{e:Expr}{es:List Expr}{D:DE}{R:kS}(h:bz P Fl d sc e D)(hr:SimA P Fl d sc pos es R):SimA P Fl d sc pos (.Starred e p::es) (rE D R):=by
 intro A env s Q X loc hp stk rm hs ev ok hD
 refine items_star ((h A env s _ X loc hp stk rm hs ev ok hD).thn λx hp1 s1 e1 ok1 hq=>?_) rfl
 obtain⟨v,⟨us,hu,hl,q1⟩,r1⟩:=hq
 refine star_items ok1 r1 hu hl λxs h' k rx=>?_
 have e2:Ext no1 stk hp1 s1 hp1 {s1 with heap:=h'}:=Ext.grow (stk:=stk) (tk:=s1.toks) k
 have ok2:HeapOk P stk hp1 {s1 with heap:=h'}:=ok1.grow (tk:=s1.toks) k
 refine wpAny_mono (hr A env _ _ X loc hp1 stk rm hs (ev.step ok (e1.trans e2)) ok2 q1) (λys s3 hq=>?_) λy y z=>z.back P (e1.trans e2)
 obtain⟨hp3,e3,ok3,vs,q3,r3⟩:=hq
 exact⟨hp3,(e1.trans e2).trans e3,ok3,us++vs,q3,VRs.append (jg e3 rx) r3⟩
noncomputable def rq(a:kS):DE:=λQ X loc hp=>a (λvs hp1=>vs.length≤lim∧Q (.tup vs) hp1) X loc hp
theorem Sim.tup{es:List Expr}{k:Nat}{pos:Pos}{D:kS}(h:SimA P Fl d sc pos es D):bz P Fl d sc (.Tuple es k pos) (rq D):=by
 intro A env s Q X loc hp stk rm hs ev ok hD
 refine wpAny_Tuple ((h A env s _ X loc hp stk rm hs ev ok hD).thn λxs hp1 s1 e1 ok1 hq=>?_)
 obtain⟨vs,⟨hl,q⟩,r⟩:=hq
 refine⟨?_,?_⟩
 ·have:=r.length;have:=dZ;lia
 ·exact(tH (tk:=s1.toks) (xs:=xs.toArray) ok1 (by simpa using r) q).back P e1
noncomputable def i3(a:kS):DE:=λQ X loc hp=>a (λvs hp1=>vs.length≤lim∧Q (.lst vs) hp1) X loc hp
theorem Sim.lst{es:List Expr}{pos:Pos}{D:kS}(h:SimA P Fl d sc pos es D):bz P Fl d sc (.List es pos) (i3 D):=by
 intro A env s Q X loc hp stk rm hs ev ok hD
 refine wpAny_List ((h A env s _ X loc hp stk rm hs ev ok hD).thn λxs hp1 s1 e1 ok1 hq=>?_)
 obtain⟨vs,⟨hl,q⟩,r⟩:=hq
 refine⟨?_,?_⟩
 ·have:=r.length;have:=dZ;lia
 ·exact(jh (tk:=s1.toks) (xs:=xs.toArray) ok1 (by simpa using r) q).back P e1
noncomputable def pv(a:kS):DE:=λQ X loc hp=>a (λvs hp1=>vs.length≤lim∧∀l,hp1 l=ac→Q (.ref l) (upd hp1 l (.lst vs))) X loc hp
theorem bB.upd{stk:Addr→Prop}{hp:Hp}{h h':Heap}{a:Addr}{o:O}(k:∀b o,h.get? b=some o→h'.get? b=some o)(hn:h.get? a=ac):bB (Fz stk hp) (Fz stk (Mine.upd hp a o)) h h':=by
 intro b ob i1_ g;refine i1_.elim λe n=>?_
 have:b≠a:=by rintro rfl;rw[hn]at g;cases g
 exact⟨⟨by rw[upd_ne this];exact e,n⟩,k b ob g⟩
theorem newTracked{own stk:Addr→Prop}{hp:Hp}{s:af}{ob:Obj}{o:O}{tk:Nat}{Q:V→Hp→Prop}(ok:HeapOk P stk hp s)(hf:ob.isFreed=false)
 (ho:OR P.nm P.prog P.w (Fz stk (upd hp s.heap.objs.size o)) (s.heap.push ob) s.heap.objs.size o)(hq:∀l,hp l=ac→Q (.ref l) (upd hp l o)):
 PostT P own stk hp s (PV P stk Q) (.ref s.heap.objs.size) {s with heap:=s.heap.push ob,toks:=tk}:=by
 have k:∀b o,s.heap.get? b=some o→(s.heap.push ob).get? b=some o:=λb o e=>aj _ e
 have hn:=cX s.heap
 exact⟨_,Ext.track (stk:=stk) k hn,ok.track k hn ho,.ref _,hq _ (fz_of_new ok hn).1,rj⟩
theorem Sim.new{es:List Expr}{pos:Pos}{D:kS}(h:SimA P Fl d sc pos es D):bz P Fl d sc (.List es pos) (pv D):=by
 intro A env s Q X loc hp stk rm hs ev ok hD
 refine wpAny_List ((h A env s _ X loc hp stk rm hs ev ok hD).thn λxs hp1 s1 e1 ok1 hq=>?_)
 obtain⟨vs,⟨hl,q⟩,r⟩:=hq
 refine⟨?_,?_⟩
 ·have:=r.length;have:=dZ;lia
 ·refine(newTracked (tk:=s1.toks) (o:=.lst vs) ok1 rfl ?_ q).back P e1
  exact⟨xs.toArray,⟨0,aq _ rfl⟩,by simpa using VRs.keep (bB.upd (λb o e=>aj _ e) (cX _)) r⟩
noncomputable def n9:DE:=λQ X loc hp=>∀l,hp l=ac→∀ep,Q (.ref l) (upd hp l (.dict [] ep))
theorem Sim.dict{pos:Pos}:bz P Fl d sc (.Dict [] [] pos) n9:=by
 intro A env s Q X loc hp stk rm hs ev ok hD
 refine wpAny_Dict_empty ?_
 obtain⟨ep,hd⟩:=(EW (knd:=intKind P.prog P.w) s.heap).dictAt
 refine newTracked (tk:=s.toks) (o:=.dict [] ep) ok rfl ?_ λl hl=>hD l hl ep
 exact⟨[],hd,rfl⟩
noncomputable abbrev DC:=List V→(V→Hp→Prop)→XA→Hp→Prop
noncomputable def OkC(P:cH)(Fl:f9)(d:Nat)(f:Value)(Dc:DC):Prop:=
 ∀(A:ax)(s:af)(Q:V→Hp→Prop)(X:XA)(hp:Hp)(stk:Addr→Prop)(vs:List V)(xs:List Value),dY d A→Fs A stk s→HeapOk P stk hp s→P.VRs stk hp s.heap vs xs→Dc vs Q X hp→
  T P no1 stk A (call f xs) hp s (PV P stk Q) (lX Fl X)
noncomputable def KeepF(P:cH)(f:Value):Prop:=∀h:Heap,(∀b o,P.H₀.get? b=some o→h.get? b=some o)→∃k,(k=Ax∨k=yF∨k=vX)∧F2 P.M h (keeperOf f) k
theorem KeepF.builtin(id:String):KeepF P (.builtin id):=λh z=>⟨_,.inr (.inl rfl),lz rfl⟩
theorem KeepF.type(id:String):KeepF P (.type id):=λh z=>⟨_,.inr (.inl rfl),lz rfl⟩
theorem KeepF.inK{f:Value}(X:P.K.In P.H₀)(hk:keepIn P.K f=true):KeepF P f:=λh k=>keeps_K hk h (X.keeps k)
theorem jJ{A:ax}{s:af}{E:Value→af→Prop}{f:Value}{first:List Value}{pos:Pos}{Q:Value→af→Prop}{R:Heap→Prop}{args:List (Bool×Sem Value)}
 (hk:∀h,R h→∃k,(k=Ax∨k=yF∨k=vX)∧F2 P.M h (keeperOf f) k)
 (h:wpAny P.M A (evalArgs f true args []) (λa s₁=>R s₁.heap∧wpAny P.M A (call f (first++a.pos) a.kw) Q E s₁) E s):wpAny P.M A (callWith pos f first args []) Q E s:=by
 unfold callWith
 refine wpAny_bind (wpAny_holding (wpAny_mono h (λa s₁ h₁=>wpAny_bind (wpAny_standAt ?_)) λz z x=>x))
 obtain⟨k,hk',L⟩:=hk _ h₁.1
 refine wpAny_bind (L.here ?_)
 have tail:∀{t:Sem Value},wpAny P.M A t Q E s₁→wpAny P.M A (t>>= λr=>holding [r] point>>= λz=>pure r) Q E s₁:=
  λht=>wpAny_bind (wpAny_mono ht (λr s₂ hr=>wpAny_bind (wpAny_holding (wpAny_point (wpAny_pure hr)))) λz z x=>x)
 have marked (mk:Value):wpAny P.M A (callMarked mk f (first++a.pos) a.kw) Q E s₁:=by unfold callMarked;exact Calls.wpAny_keep h₁.2
 cases hst:(args.any (·.1)||([]:List (Option Str×Sem Value)).any (·.1.isNone))<;>
 rcases hk' with rfl|rfl|rfl<;>dsimp only<;>first|exact tail (marked _)|exact tail (wpAny_operating h₁.2)|exact tail h₁.2|(refine wpAny_ite ?_;split<;>first|exact tail (marked _)|exact tail h₁.2)
noncomputable def SimR(P:cH)(Fl:f9)(d:Nat)(sc:Scope)(pos:Pos)(es:List Expr)(D:kS):Prop:=
 ∀(f:Value)(A:ax)(env:Env)(s:af)(Q:List V→Hp→Prop)(X:XA)(loc:aZ)(hp:Hp)(stk:Addr→Prop),
  dY d A→env.scope=sc→EnvOk P A stk hp env loc s→HeapOk P stk hp s→D Q X loc hp→
  T P no1 stk A (evalArgs f true (backTo pos (starEach es env)) []) hp s (λa hp' s'=>a.kw=[]∧∃vs,Q vs hp'∧P.VRs stk hp' s'.heap vs a.pos) (lX Fl X)
theorem SimR.nil{pos:Pos}:SimR P Fl d sc pos [] aF:=λf A env s Q X loc hp stk rm hs ev ok hD=>PySem.evalArgs_none ⟨hp,.refl ..,ok,rfl,[],hD,vNil⟩
theorem SimR.of{pos:Pos}{e:Expr}{es:List Expr}{D:kS}(h:SimA P Fl d sc pos (e::es) D)(he:∀env,starEach (e::es) env=(false,eval e env)::starEach es env:=by exact λy=>rfl):SimR P Fl d sc pos (e::es) D:=by
 intro f A env s Q X loc hp stk rm hs ev ok hD
 have z:=h A env s Q X loc hp stk rm hs ev ok hD
 rw[he env]at z⊢
 exact Calls.evalArgs_plain (wpAny_mono z (by rintro xs s1 ⟨hp1,e1,ok1,vs,q,r⟩;exact⟨hp1,e1,ok1,rfl,vs,q,r⟩) λy y z=>z)
theorem SimR.lone{pos p:Pos}{e:Expr}{D:DE}(h:bz P Fl d sc e D):SimR P Fl d sc pos [.Starred e p] (rE D aF):=by
 intro f A env s Q X loc hp stk rm hs ev ok hD
 refine ks_lone ((h A env s _ X loc hp stk rm hs ev ok hD).thn λx hp1 s1 e1 ok1 hq=>?_)
 obtain⟨v,⟨us,hu,hl,q1⟩,r1⟩:=hq
 refine star_items ok1 r1 hu hl λxs h' k rx=>?_
 have e2:Ext no1 stk hp1 s1 hp1 {s1 with heap:=h'}:=Ext.grow (stk:=stk) (tk:=s1.toks) k
 have ok2:HeapOk P stk hp1 {s1 with heap:=h'}:=ok1.grow (tk:=s1.toks) k
 exact⟨hp1,e1.trans e2,ok2,rfl,us,by simpa[aF]using q1,rx⟩
theorem callWith_sim{A:ax}{env:Env}{s:af}{loc:aZ}{hp:Hp}{stk:Addr→Prop}{pos:Pos}{es:List Expr}{D:kS}{Dc:DC}{f:Value}{fv:List V}{first:List Value}{Q:V→Hp→Prop}{X:XA}
 (hr:SimR P Fl d sc pos es D)(hf:OkC P Fl d f Dc)(hk:KeepF P f)(rm:dY d A)(hs:env.scope=sc)(ev:EnvOk P A stk hp env loc s)(ok:HeapOk P stk hp s)(rf:P.VRs stk hp s.heap fv first)
 (h:D (λvs hp2=>Dc (fv++vs) Q X hp2) X loc hp):
 T P no1 stk A (callWith pos f first (backTo pos (starEach es env)) []) hp s (PV P stk Q) (lX Fl X):=by
 refine jJ (R:=λh=>∀b o,P.H₀.get? b=some o→h.get? b=some o) (λh k=>hk h k) ?_
 refine(hr f A env s _ X loc hp stk rm hs ev ok h).thn λa hp1 s1 e1 ok1 hq=>?_
 refine hq.elim λhkw r1_=>r1_.elim λvs r2_=>r2_.elim λq r=>?_
 refine⟨ok1.base,?_⟩
 rw[hkw]
 exact T.nxt e1 (hf A s1 Q X hp1 stk (fv++vs) (first++a.pos) rm (ev.step ok e1).frs ok1 (VRs.append (jg e1 rf) r) q)
noncomputable def aS(Dc:DC)(a:kS):DE:=λQ X loc hp=>a (λvs hp1=>Dc vs Q X hp1) X loc hp
theorem Sim.call{x:Str}{np pos:Pos}{es:List Expr}{D:kS}{Dc:DC}{f:Value}(hn:bz P Fl d sc (.Name x np) (aJ (.fn f)))(hr:SimR P Fl d sc pos es D)(hf:OkC P Fl d f Dc)(hk:KeepF P f):bz P Fl d sc (.Call (.Name x np) es [] pos) (aS Dc D):=by
 intro A env s Q X loc hp stk rm hs ev ok hD
 refine wpAny_Call_ofName ((hn A env s (λv hp1=>v= .fn f∧hp1=hp) X loc hp stk rm hs ev ok ⟨rfl,rfl⟩).thn λy hp1 s1 e1 ok1 hq=>?_)
 obtain⟨v,⟨hv,hh⟩,r⟩:=hq
 subst hv hh
 cases r
 exact T.nxt e1 (callWith_sim (fv:=[]) (first:=[]) hr hf hk rm hs (ev.step ok e1) ok1 vNil hD)
noncomputable def Meth(P:cH)(name:Str)(isR:Hp→V→Prop)(f:Value):Prop:=
 ∀(A:ax)(s:af)(hp:Hp)(stk:Addr→Prop)(v:V)(x:Value)(pl:Sem Bool)(Q:Value×List Value→af→Prop)(E:Value→af→Prop),HeapOk P stk hp s→P.VR stk hp s.heap v x→isR hp v→
  (∀tk,Q (f,[x]) {s with toks:=tk})→wpAny P.M A (getMethod x name pl) Q E s
noncomputable def b7(isR:Hp→V→Prop)(Dc:DC)(o:DE)(a:kS):DE:=λQ X loc hp=>o (λr hp1=>isR hp1 r∧a (λvs hp2=>Dc (r::vs) Q X hp2) X loc hp1) X loc hp
theorem callMeth{A:ax}{env:Env}{s:af}{E:Value→af→Prop}{o:Expr}{name:Str}{apos pos:Pos}{args:List Expr}{Q:Value→af→Prop}
 (hbase:attributeBase o name env (eval o env)=eval o env)
 (hfew:((backTo pos (starEach args env)).all (λx=> !x.1))=true)(hlen:args.length<29)
 (hline:(apos.endLine==pos.line)=true)
 (h:wpAny P.M A (eval o env) (λov s₁=>∀pl,wpAny P.M A (getMethod ov name pl) (λfx s₂=>wpAny P.M A (callWith pos fx.1 fx.2 (backTo pos (starEach args env)) []) Q E s₂) E s₁) E s):
 wpAny P.M A (eval (.Call (.Attribute o name apos) args [] pos) env) Q E s:=by
 rw[Fg,hbase]
 refine wpAny_bind (wpAny_mono h (λov s₁ h₁=>?_) λz z e=>e)
 refine wpAny_bind (wpAny_standAt ?_)
 have hc:methodCallForm (args.length+([]:List Keyword).length) (backTo pos (starEach args env)) (backToKw pos (keywordEach [] env))=true:=by
  show((backTo pos (starEach args env)).all (λx=> !x.1)&&true&&decide (args.length+0+0<30))=true
  rw[hfew];simp;lia
 delta methodCall calleeOf methodCallPos
 rw[hc,if_pos rfl]
 refine wpAny_bind (wpAny_holding (wpAny_mono (h₁ _) (λfx s₂ h₂=>?_) λz z e=>e))
 obtain⟨f,first⟩:=fx
 refine wpAny_bind ?_
 rw[if_pos (by rw[hline];simp)]
 exact wpAny_pure h₂
theorem Sim.meth{o:Expr}{name:Str}{apos pos:Pos}{es:List Expr}{isR:Hp→V→Prop}{f:Value}{Dc:DC}{Do:DE}{D:kS}(hm:Meth P name isR f)(ho:bz P Fl d sc o Do)(hr:SimR P Fl d sc pos es D)(hf:OkC P Fl d f Dc)(hk:KeepF P f)
 (hbase:∀env,attributeBase o name env (eval o env)=eval o env:=by exact λz=>rfl)
 (hfew:∀env,((backTo pos (starEach es env)).all (λx=> !x.1))=true:=by exact λz=>rfl)(hlen:es.length<29:=by decide+kernel)
 (hline:(apos.endLine==pos.line)=true:=by rfl):bz P Fl d sc (.Call (.Attribute o name apos) es [] pos) (b7 isR Dc Do D):=by
 intro A env s Q X loc hp stk rm hs ev ok hD
 refine callMeth (hbase env) (hfew env) hlen hline ((ho A env s _ X loc hp stk rm hs ev ok hD).thn λx hp1 s1 e1 ok1 hq=>λpl=>?_)
 obtain⟨v,⟨hR,q⟩,r⟩:=hq
 refine hm A s1 hp1 stk v x pl _ _ ok1 r hR λtk=>?_
 have e2:Ext no1 stk hp1 s1 hp1 {s1 with toks:=tk}:=.toks tk
 exact T.nxt (e1.trans e2) (callWith_sim (fv:=[v]) (first:=[x]) hr hf hk rm hs (ev.step ok (e1.trans e2)) (ok1.toks tk) (vCons r vNil) q)
end Mine
namespace Mine
inductive Fw where
 |next|brk|cont
 |ret (v:V)
noncomputable abbrev XS:=Nat→aZ→Hp→Prop
noncomputable abbrev DS:=(Fw→aZ→Hp→Prop)→XS→aZ→Hp→Prop
noncomputable def gc(env:Env):Addr→Prop:=λb=>b=env.locals∨∃n,env.cells.lookup n=some b
theorem EnvOk.own{P:cH}{A:ax}{stk:Addr→Prop}{hp:Hp}{env:Env}{loc:aZ}{s:af}(ev:EnvOk P A stk hp env loc s):∀b,gc env b→stk b:=by
 rintro b (rfl|⟨n,h⟩)
 ·exact ev.stkL
 ·exact ev.stkC _ _ h
noncomputable def ml(P:cH)(env:Env)(ids:List Nat):Addr→Prop:=λb=>∃i∈ids,(env.kindOf (P.nm i)=some .local∧b=env.locals)∨(env.kindOf (P.nm i)=some .cell∧env.cells.lookup (P.nm i)=some b)
theorem ownI_E{P:cH}{env:Env}{ids:List Nat}:∀b,ml P env ids b→gc env b:=by
 rintro b ⟨i,_,⟨_,rfl⟩|⟨_,h⟩⟩
 ·exact .inl rfl
 ·exact .inr ⟨_,h⟩
theorem hU{P:cH}{env:Env}{ids ids':List Nat}(h:∀i∈ids,i∈ids'):∀b,ml P env ids b→ml P env ids' b:=(by rintro b ⟨i,m,r⟩;exact⟨i,h i m,r⟩)
noncomputable def AG(P:cH)(stk:Addr→Prop)(hp:Hp)(h:Heap):Fw→Flow→Prop
 | .next,.next=>True
 | .brk,.brk=>True
 | .cont,.cont=>True
 | .ret v,.ret x=>P.VR stk hp h v x
 |_,_=>False
@[elab_as_elim] theorem AG.inv{P:cH}{stk:Addr→Prop}{hp:Hp}{h:Heap}{C:Fw→Flow→Prop}{w:Fw}{f:Flow}(r:AG P stk hp h w f)(h1:C .next .next)(h2:C .brk .brk)(h3:C .cont .cont)(h4:∀v x,P.VR stk hp h v x→C (.ret v) (.ret x)):C w f:=by
  cases w<;>cases f<;>first|exact r.elim|assumption|exact h4 _ _ r
inductive QS(P:cH)(A:ax)(stk:Addr→Prop)(env:Env)(Q:Fw→aZ→Hp→Prop)(f:Flow)(hp:Hp)(s:af):Prop
 |intro (w:Fw) (loc:aZ) (ev:EnvOk P A stk hp env loc s) (q:Q w loc hp) (r:AG P stk hp s.heap w f):QS P A stk env Q f hp s
inductive QX(P:cH)(Fl:f9)(A:ax)(stk:Addr→Prop)(env:Env)(X:XS)(e:Value)(hp:Hp)(s:af):Prop
 |intro (k:Nat×Hp) (loc:aZ) (ev:EnvOk P A stk hp env loc s) (x:X k.1 loc k.2) (l:Fl k e hp s):QX P Fl A stk env X e hp s
inductive QG(P:cH)(A:ax)(stk:Addr→Prop)(env:Env)(Q:aZ→Hp→Prop){α:Type}(x:α)(hp:Hp)(s:af):Prop
 |intro (loc:aZ) (ev:EnvOk P A stk hp env loc s) (q:Q loc hp):QG P A stk env Q x hp s
noncomputable def SimS(P:cH)(Fl:f9)(d:Nat)(sc:Scope)(st:Stmt)(D:DS):Prop:=
 ∀(A:ax)(env:Env)(s:af)(Q:Fw→aZ→Hp→Prop)(X:XS)(loc:aZ)(hp:Hp)(stk:Addr→Prop),
  dY d A→env.scope=sc→EnvOk P A stk hp env loc s→HeapOk P stk hp s→D Q X loc hp→
  T P (gc env) stk A (exec st env) hp s (QS P A stk env Q) (QX P Fl A stk env X)
noncomputable def SimSs(P:cH)(Fl:f9)(d:Nat)(sc:Scope)(sts:List Stmt)(D:DS):Prop:=
 ∀(A:ax)(env:Env)(s:af)(Q:Fw→aZ→Hp→Prop)(X:XS)(loc:aZ)(hp:Hp)(stk:Addr→Prop),
  dY d A→env.scope=sc→EnvOk P A stk hp env loc s→HeapOk P stk hp s→D Q X loc hp→
  T P (gc env) stk A (execs sts env) hp s (QS P A stk env Q) (QX P Fl A stk env X)
variable{P:cH}{Fl:f9}{d:Nat}{sc:Scope}
theorem E2{A:ax}{env:Env}{s:af}{loc:aZ}{hp:Hp}{stk:Addr→Prop}{e:Expr}{D:DE}{Q:V→Hp→Prop}{X:XS}{G:Value→af→Prop}(h:bz P Fl d sc e D)(rm:dY d A)(hs:env.scope=sc)(ev:EnvOk P A stk hp env loc s)(ok:HeapOk P stk hp s)
 (hD:D Q (λk hp'=>X k loc hp') loc hp)(k:∀v x hp1 s1,Ext no1 stk hp s hp1 s1→EnvOk P A stk hp1 env loc s1→HeapOk P stk hp1 s1→Q v hp1→P.VR stk hp1 s1.heap v x→G x s1):
 wpAny P.M A (eval e env) G (PostT P (gc env) stk hp s (QX P Fl A stk env X)) s:=
 wpAny_mono (h A env s Q _ loc hp stk rm hs ev ok hD) (by rintro x s1 ⟨hp1,e1,ok1,v,q,r⟩;exact k v x hp1 s1 e1 (ev.step ok e1) ok1 q r)
  (by rintro e s1 ⟨hp1,e1,ok1,kk,hx,hf⟩;exact⟨hp1,e1.of1,ok1,kk,loc,ev.step ok e1,hx,hf⟩)
theorem T2{A:ax}{env:Env}{s:af}{loc:aZ}{hp:Hp}{stk:Addr→Prop}{e:Expr}{D:DT}{Q:Bool→Hp→Prop}{X:XS}{G:Bool→af→Prop}(h:SimT P Fl d sc e D)(rm:dY d A)(hs:env.scope=sc)(ev:EnvOk P A stk hp env loc s)(ok:HeapOk P stk hp s)
 (hD:D Q (λk hp'=>X k loc hp') loc hp)(k:∀b hp1 s1,Ext no1 stk hp s hp1 s1→EnvOk P A stk hp1 env loc s1→HeapOk P stk hp1 s1→Q b hp1→G b s1):
 wpAny P.M A (isTrue e env (eval e env)) G (PostT P (gc env) stk hp s (QX P Fl A stk env X)) s:=
 wpAny_mono (h A env s Q _ loc hp stk rm hs ev ok hD) (by rintro x s1 ⟨hp1,e1,ok1,q⟩;exact k x hp1 s1 e1 (ev.step ok e1) ok1 q)
  (by rintro e s1 ⟨hp1,e1,ok1,kk,hx,hf⟩;exact⟨hp1,e1.of1,ok1,kk,loc,ev.step ok e1,hx,hf⟩)
theorem storeVar(inj:∀i j,P.nm i=P.nm j→i=j){A:ax}{env:Env}{s:af}{loc:aZ}{hp:Hp}{stk:Addr→Prop}{i:Nat}{v:V}{x:Value}{G:Unit→af→Prop}{E:Value→af→Prop}
 (hk:(match env.scope.names.lookup (P.nm i)with|some .local=>true|some .cell=>true|_=>false)=true)(ev:EnvOk P A stk hp env loc s)(ok:HeapOk P stk hp s)(r:P.VR stk hp s.heap v x)
 (k:∀s',Ext (ml P env [i]) stk hp s hp s'→EnvOk P A stk hp env (upd loc i v) s'→HeapOk P stk hp s'→G () s'):wpAny P.M A (storeName env (P.nm i) x) G E s:=by
 have hn:∀a,stk a→hp a=ac:=λa z=>by
  cases q:hp a with
  |none=>rfl
  |some o=>exact absurd z (ok.apart a (by rw[q];intro z;cases z))
 have main:∀(c:Addr)(h':Heap)(tk:Nat),ml P env [i] c→bv c s.heap h'→(∃o,h'.get? c=some o)→(∀o,s.heap.get? c=some o→ng o→∃o',h'.get? c=some o'∧ng o')→Ext (ml P env [i]) stk hp s hp {s with heap:=h',toks:=tk}∧HeapOk P stk hp {s with heap:=h',toks:=tk}∧bB (Fz stk hp) (Fz stk hp) s.heap h':=by
  intro c h' tk hc hs ht hdd
  have hsc:=ev.own c (ownI_E c hc)
  have ky:bB (Fz stk hp) (Fz stk hp) s.heap h':=by
   rintro a o f g
   have:a≠c:=by rintro rfl;exact f.2 hsc
   exact⟨f,(hs.2 a this).trans g⟩
  refine⟨.exact (λb o e n g=>?_) (λb o g=>?_) (λb o st g d=>?_) (λw a b=>absurd a b) rfl rfl,⟨λa o e=>(ok.obj a o e).keep ky λo g=>?_,ok.apart,λb o e=>?_,ok.new,ok.stkn,λa z=>?_,ok.gens⟩,ky⟩
  ·have:b≠c:=by rintro rfl;exact n hc
   exact(hs.2 b this).trans g
  ·by_cases q:b=c
   ·subst q;exact ht
   ·exact⟨o,(hs.2 b q).trans g⟩
  ·by_cases q:b=c
   ·subst q;exact hdd o g d
   ·exact⟨o,(hs.2 b q).trans g,d⟩
  ·have:a≠c:=by rintro rfl;rw[hn _ hsc]at e;cases e
   exact(hs.2 a this).trans g
  ·have:b≠c:=by rintro rfl;rw[ok.stkn _ hsc]at e;cases e
   exact(hs.2 b this).trans (ok.base b o e)
  ·by_cases q:a=c
   ·subst q;exact ht
   ·obtain⟨o,e⟩:=ok.stkl a z;exact⟨o,(hs.2 a q).trans e⟩
 have hkind:env.kindOf (P.nm i)=env.scope.names.lookup (P.nm i):=rfl
 rw[←hkind]at hk
 cases q:env.kindOf (P.nm i)with
 |none=>rw[q]at hk;cases hk
 |some kd=>
  rw[q]at hk
  obtain⟨m,n,hm⟩:=ev.ns
  cases kd with
  |«local»=>
   refine wpAny_storeName_local q n (λh' hn' hs'=>?_) (by rw[ev.kind];rfl)
   obtain⟨e,ok',ky⟩:=main env.locals h' (s.toks+1) ⟨i,ai,.inl ⟨q,rfl⟩⟩ hs' (by obtain⟨o,_,_,g,_⟩:=hn';exact⟨o,g⟩) (λw w w=>(by obtain⟨o,es,ep,g,d,_⟩:=hn';exact⟨o,g,es,ep,d⟩))
   refine k _ e ⟨ev.kind,ev.glob,ev.blt,⟨_,hn',λj u hj hl=>?_⟩,λj u hj hl=>?_,ev.stkL,ev.stkC,λnn kk=>?_,ev.apart,ev.apartL,ev.frs.step e,ev.top⟩ ok'
   ·by_cases ji:j=i
    ·subst ji;rw[upd_same]at hj;cases hj;exact⟨x,by simp,r.keep ky⟩
    ·rw[upd_ne ji]at hj
     obtain⟨y,p,ry⟩:=hm j u hj hl
     exact⟨y,by rw[if_neg (λz=>ji (inj _ _ z))];exact p,ry.keep ky⟩
   ·have ji:j≠i:=by rintro rfl;rw[q]at hl;rcases hl with z|z<;>cases z
    rw[upd_ne ji]at hj
    refine(ev.cell j u hj hl).elim λc r1_=>r1_.elim λy r2_=>r2_.elim λp r3_=>r3_.elim λg ry=>?_
    exact⟨c,y,p,g.sameBut hs' (λz=>ev.apartL _ (z▸p)),ry.keep ky⟩
   ·refine(ev.cells nn kk).elim λc r1_=>r1_.elim λy r2_=>r2_.elim λp g=>?_
    exact⟨c,y,p,g.sameBut hs' (λz=>ev.apartL _ (z▸p))⟩
  |cell=>
   obtain⟨c,y,p,g⟩:=ev.cells _ (.inl q)
   refine wpAny_storeName_cell ev.kind q p g λh' hc' hs'=>?_
   have hLc:env.locals≠c:=λz=>ev.apartL _ (z▸p)
   obtain⟨e,ok',ky⟩:=main c h' s.toks ⟨i,ai,.inr ⟨q,p⟩⟩ hs' (by obtain⟨o,g,_⟩:=hc';exact⟨o,g⟩) (λo g' d'=>by obtain⟨o2,g2,r2⟩:=g;rw[g']at g2;cases g2;exact absurd d' (isD_cell r2))
   refine k _ e ⟨ev.kind,ev.glob,ev.blt,⟨m,n.sameBut hs' hLc,λj u hj hl=>?_⟩,λj u hj hl=>?_,ev.stkL,ev.stkC,λnn kk=>?_,ev.apart,ev.apartL,ev.frs.step e,ev.top⟩ ok'
   ·have ji:j≠i:=by rintro rfl;rw[q]at hl;cases hl
    rw[upd_ne ji]at hj
    refine(hm j u hj hl).elim λy r1_=>r1_.elim λp ry=>?_
    exact⟨y,p,ry.keep ky⟩
   ·by_cases ji:j=i
    ·subst ji;rw[upd_same]at hj;cases hj;exact⟨c,x,p,hc',r.keep ky⟩
    ·rw[upd_ne ji]at hj
     refine(ev.cell j u hj hl).elim λc2 r1_=>r1_.elim λy2 r2_=>r2_.elim λp2 r3_=>r3_.elim λg2 ry=>?_
     exact⟨c2,y2,p2,g2.sameBut hs' (λz=>ji (inj _ _ (ev.apart _ _ _ p2 (z▸p)))),ry.keep ky⟩
   ·refine(ev.cells nn kk).elim λc2 r1_=>r1_.elim λy2 r2_=>r2_.elim λp2 g2=>?_
    by_cases cc:c2=c
    ·subst cc;exact⟨c2,_,p2,hc'⟩
    ·exact⟨c2,y2,p2,g2.sameBut hs' cc⟩
  |_=>cases hk
noncomputable abbrev DA:=V→(aZ→Hp→Prop)→XS→aZ→Hp→Prop
noncomputable def SimG(P:cH)(Fl:f9)(d:Nat)(sc:Scope)(t:Expr)(ids:List Nat)(D:DA):Prop:=
 ∀(A:ax)(env:Env)(s:af)(Q:aZ→Hp→Prop)(X:XS)(loc:aZ)(hp:Hp)(stk:Addr→Prop)(v:V)(x:Value),
  dY d A→env.scope=sc→EnvOk P A stk hp env loc s→HeapOk P stk hp s→P.VR stk hp s.heap v x→D v Q X loc hp→
  T P (ml P env ids) stk A (assign t env x) hp s (QG P A stk env Q) (QX P Fl A stk env X)
noncomputable def aG(i:Nat):DA:=λv Q X loc hp=>Q (upd loc i v) hp
theorem SimG.var(inj:∀i j,P.nm i=P.nm j→i=j){i:Nat}{x:Str}{pos:Pos}(hx:P.nm i=x)(hk:(match sc.names.lookup x with|some .local=>true|some .cell=>true|_=>false)=true):SimG P Fl d sc (.Name x pos) [i] (aG i):=by
 subst hx
 intro A env s Q X loc hp stk v x rm hs ev ok r hD
 refine wpAny_assign_Name (storeVar inj (by rw[hs];exact hk) ev ok r λs' e ev' ok'=>⟨hp,e,ok',_,ev',hD⟩)
theorem SimG.wide{t:Expr}{it:List Nat}{D:DA}(h:SimG P Fl d sc t it D){A:ax}{env:Env}{s:af}{Q:aZ→Hp→Prop}{X:XS}{loc:aZ}{hp:Hp}{stk:Addr→Prop}{v:V}{x:Value}
 (rm:dY d A)(hs:env.scope=sc)(ev:EnvOk P A stk hp env loc s)(ok:HeapOk P stk hp s)(r:P.VR stk hp s.heap v x)(hD:D v Q X loc hp):
 T P (gc env) stk A (assign t env x) hp s (QG P A stk env Q) (QX P Fl A stk env X):=
 wpAny_mono (h A env s Q X loc hp stk v x rm hs ev ok r hD) (by rintro _ _ ⟨hp',e,z,z'⟩;exact⟨hp',e.wider ownI_E,z,z'⟩) (by rintro _ _ ⟨hp',e,z,z'⟩;exact⟨hp',e.wider ownI_E,z,z'⟩)
theorem kb{A:ax}{stk:Addr→Prop}{hp hp':Hp}{env:Env}{loc:aZ}{s₀ s s':af}{hp₀:Hp}{v:V}{x:Value}(ev:EnvOk P A stk hp₀ env loc s₀)(e:Ext (gc env) stk hp s hp' s')(h:P.VR stk hp s.heap v x):P.VR stk hp' s'.heap v x:=VR.keep (e.keepy ev.own) h
noncomputable def bE(e:DE)(t:DA):DS:=λQ X loc hp=>e (λv hp1=>t v (λloc' hp2=>Q .next loc' hp2) X loc hp1) (λk hp'=>X k loc hp') loc hp
theorem SimS.asgName{i:Nat}{x:Str}{pos pos':Pos}{e:Expr}{D:DE}(inj:∀i j,P.nm i=P.nm j→i=j)(hx:P.nm i=x)(hk:(match sc.names.lookup x with|some .local=>true|some .cell=>true|_=>false)=true)
 (h:bz P Fl d sc e D)(hs':∀env:Env,env.scope=sc→swapsWith e (some (.Name x pos')) pos.line env=pure false):SimS P Fl d sc (.Assign [.Name x pos'] e pos) (bE D (aG i)):=by
 subst hx
 intro A env s Q X loc hp stk rm hs ev ok hD
 refine wpAny_Assign_Name (E2 h rm hs ev ok hD λv x hp1 s1 e1 ev1 ok1 q r=>?_) (hs' env hs)
 exact storeVar inj (by rw[hs];exact hk) ev1 ok1 r λs' e ev' ok'=>⟨hp1,e1.of1.trans (e.wider ownI_E),ok',.next,_,ev',q,trivial⟩
theorem SimS.asg{t e:Expr}{pos:Pos}{D:DE}{Dt:DA}{it:List Nat}(h:bz P Fl d sc e D)(ht:SimG P Fl d sc t it Dt)
 (he:∀env,(assignEach [t] env).map (·.2)=[assign t env]:=by exact λy=>rfl)(hs':∀env,swapsWithSole [t] e pos.line env=pure false:=by exact λy=>rfl)(hw:∀env,swappedStores [t] e env=pure ac:=by exact λy=>rfl):SimS P Fl d sc (.Assign [t] e pos) (bE D Dt):=by
 intro A env s Q X loc hp stk rm hs ev ok hD
 refine wpAny_Assign_stores (E2 h rm hs ev ok hD λv x hp1 s1 e1 ev1 ok1 q r=>?_) (hs' env) (hw env)
 rw[he env]
 refine wpAny_mono (ht.wide rm hs ev1 ok1 r q) (λy s2 hq=>?_) λy y z=>z.back P e1.of1
 obtain⟨hp2,e2,ok2,loc2,ev2,q2⟩:=hq
 exact⟨hp2,e1.of1.trans e2,ok2,.next,loc2,ev2,q2,trivial⟩
noncomputable def wp(e:DE)(t u:DA):DS:=λQ X loc hp=>e (λv hp1=>t v (λloc2 hp2=>u v (λloc3 hp3=>Q .next loc3 hp3) X loc2 hp2) X loc hp1) (λk hp'=>X k loc hp') loc hp
theorem SimS.asg2{t u e:Expr}{pos:Pos}{D:DE}{Dt Du:DA}{it iu:List Nat}(h:bz P Fl d sc e D)(ht:SimG P Fl d sc t it Dt)(hu:SimG P Fl d sc u iu Du)
 (he:∀env,(assignEach [t,u] env).map (·.2)=[assign t env,assign u env])(hw:∀env,swappedStores [t,u] e env=pure ac):SimS P Fl d sc (.Assign [t,u] e pos) (wp D Dt Du):=by
 intro A env s Q X loc hp stk rm hs ev ok hD
 refine wpAny_Assign_two (E2 h rm hs ev ok hD λv x hp1 s1 e1 ev1 ok1 q r=>?_) (he env) (hw env)
 refine wpAny_mono (ht.wide rm hs ev1 ok1 r q) (λy s2 hq=>?_) λy y z=>z.back P e1.of1
 obtain⟨hp2,e2,ok2,loc2,ev2,q2⟩:=hq
 refine wpAny_mono (hu.wide rm hs ev2 ok2 (kb ev1 e2 r) q2) (λy s3 hq=>?_) λy y z=>z.back P (e1.of1.trans e2)
 obtain⟨hp3,e3,ok3,loc3,ev3,q3⟩:=hq
 exact⟨hp3,(e1.of1.trans e2).trans e3,ok3,.next,loc3,ev3,q3,trivial⟩
noncomputable def wo(e:DE)(t u w:DA):DS:=λQ X loc hp=>e (λv hp1=>t v (λloc2 hp2=>u v (λloc3 hp3=>w v (λloc4 hp4=>Q .next loc4 hp4) X loc3 hp3) X loc2 hp2) X loc hp1) (λk hp'=>X k loc hp') loc hp
theorem SimS.asg3{t u w e:Expr}{pos:Pos}{D:DE}{Dt Du Dw:DA}{it iu iw:List Nat}(h:bz P Fl d sc e D)(ht:SimG P Fl d sc t it Dt)(hu:SimG P Fl d sc u iu Du)(hw3:SimG P Fl d sc w iw Dw)
 (he:∀env,(assignEach [t,u,w] env).map (·.2)=[assign t env,assign u env,assign w env])(hw:∀env,swappedStores [t,u,w] e env=pure ac):SimS P Fl d sc (.Assign [t,u,w] e pos) (wo D Dt Du Dw):=by
 intro A env s Q X loc hp stk rm hs ev ok hD
 refine wpAny_Assign_three (E2 h rm hs ev ok hD λv x hp1 s1 e1 ev1 ok1 q r=>?_) (he env) (hw env)
 refine wpAny_mono (ht.wide rm hs ev1 ok1 r q) (λy s2 hq=>?_) λy y z=>z.back P e1.of1
 obtain⟨hp2,e2,ok2,loc2,ev2,q2⟩:=hq
 refine wpAny_mono (hu.wide rm hs ev2 ok2 (kb ev1 e2 r) q2) (λy s3 hq=>?_) λy y z=>z.back P (e1.of1.trans e2)
 obtain⟨hp3,e3,ok3,loc3,ev3,q3⟩:=hq
 refine wpAny_mono (hw3.wide rm hs ev3 ok3 (kb ev1 (e2.trans e3) r) q3) (λy s4 hq=>?_) λy y z=>z.back P ((e1.of1.trans e2).trans e3)
 obtain⟨hp4,e4,ok4,loc4,ev4,q4⟩:=hq
 exact⟨hp4,((e1.of1.trans e2).trans e3).trans e4,ok4,.next,loc4,ev4,q4,trivial⟩
noncomputable def fQ(e:DE):DS:=λQ X loc hp=>e (λv hp1=>Q (.ret v) loc hp1) (λk hp'=>X k loc hp') loc hp
theorem SimS.ret{e:Expr}{pos:Pos}{D:DE}(h:bz P Fl d sc e D):SimS P Fl d sc (.Return (some e) pos) (fQ D):=λA env s Q X loc hp stk rm hs ev ok hD=>
 wpAny_Return_some (E2 h rm hs ev ok hD λv x hp1 s1 e1 ev1 ok1 q r=>⟨hp1,e1.of1,ok1,.ret v,loc,ev1,q,r⟩)
noncomputable def jt(e:DE):DS:=λQ X loc hp=>e (λv hp1=>Q .next loc hp1) (λk hp'=>X k loc hp') loc hp
theorem SimS.exp{e:Expr}{pos:Pos}{D:DE}(h:bz P Fl d sc e D)(hi:∀env,swapsWith e ac pos.line env=pure false:=by exact λz=>rfl):SimS P Fl d sc (.Expr e pos) (jt D):=λA env s Q X loc hp stk rm hs ev ok hD=>
 wpAny_Expr_any (E2 h rm hs ev ok hD λv x hp1 s1 e1 ev1 ok1 q r=>⟨hp1,e1.of1,ok1,.next,loc,ev1,q,trivial⟩) (by unfold interactive;rw[ev.kind];rfl) (hi env)
noncomputable def aB:DS:=λQ X loc hp=>Q .next loc hp
noncomputable def sJ:DS:=λQ X loc hp=>Q .brk loc hp
noncomputable def wn:DS:=λQ X loc hp=>Q .cont loc hp
theorem SimS.brk{pos:Pos}:SimS P Fl d sc (.Break pos) sJ:=λA env s Q X loc hp stk rm hs ev ok hD=>wpAny_Break ⟨hp,.refl ..,ok,.brk,loc,ev,hD,trivial⟩
theorem SimS.cont{pos:Pos}:SimS P Fl d sc (.Continue pos) wn:=λA env s Q X loc hp stk rm hs ev ok hD=>wpAny_Continue ⟨hp,.refl ..,ok,.cont,loc,ev,hD,trivial⟩
theorem SimSs.nil:SimSs P Fl d sc [] aB:=λA env s Q X loc hp stk rm hs ev ok hD=>se ⟨hp,.refl ..,ok,.next,loc,ev,hD,trivial⟩
noncomputable def ay(a b:DS):DS:=λQ X loc hp=>a (λw loc1 hp1=>match w with| .next=>b Q X loc1 hp1|w=>Q w loc1 hp1) X loc hp
theorem SimSs.cons{st:Stmt}{sts:List Stmt}{a b:DS}(h:SimS P Fl d sc st a)(hr:SimSs P Fl d sc sts b):SimSs P Fl d sc (st::sts) (ay a b):=by
 intro A env s Q X loc hp stk rm hs ev ok hD
 refine wpAny_execs_cons ((h A env s _ X loc hp stk rm hs ev ok hD).thn λf hp1 s1 e1 ok1 hq=>?_)
 obtain⟨w,loc1,ev1,q1,r1⟩:=hq
 revert q1
 refine AG.inv r1 (λq1=>?_) (λq1=>?_) (λq1=>?_) (λv x r q1=>?_)
 ·exact T.nxt e1 (hr A env s1 Q X loc1 hp1 stk rm hs ev1 ok1 q1)
 ·exact⟨hp1,e1,ok1,.brk,loc1,ev1,q1,trivial⟩
 ·exact⟨hp1,e1,ok1,.cont,loc1,ev1,q1,trivial⟩
 ·exact⟨hp1,e1,ok1,.ret _,loc1,ev1,q1,r⟩
noncomputable def jX(t:DT)(a b:DS):DS:=λQ X loc hp=>t (λc hp1=>if c then a Q X loc hp1 else b Q X loc hp1) (λk hp'=>X k loc hp') loc hp
theorem SimS.iff{t:Expr}{xs ys:List Stmt}{pos:Pos}{dt:DT}{a b:DS}(ht:SimT P Fl d sc t dt)(ha:SimSs P Fl d sc xs a)(hb:SimSs P Fl d sc ys b):SimS P Fl d sc (.If t xs ys pos) (jX dt a b):=by
 intro A env s Q X loc hp stk rm hs ev ok hD
 refine wpAny_If (T2 ht rm hs ev ok hD λc hp1 s1 e1 ev1 ok1 q=>?_)
 cases c with
 |true=>exact T.nxt e1.of1 (ha A env s1 Q X loc hp1 stk rm hs ev1 ok1 q)
 |false=>exact T.nxt e1.of1 (hb A env s1 Q X loc hp1 stk rm hs ev1 ok1 q)
end Mine
namespace Mine
variable{A:ax}{P:cH}{Fl:f9}{d:Nat}{sc:Scope}
noncomputable def bP(stk:Addr→Prop)(J:Addr→Prop):Addr→Prop:=λa=>stk a∨J a
noncomputable abbrev one(I:Addr):Addr→Prop:=λa=>a=I
structure Wen(hp hpL:Hp)(h:Heap)(J Jo:Addr→Prop):Prop where
 new:∀a,J a→h.get? a=ac∨(hp a≠ac∧Jo a)
 off:∀a,J a→hpL a=ac
 on:∀a,¬J a→hpL a=hp a
theorem Wen.one{stk:Addr→Prop}{hp:Hp}{s:af}(ok:HeapOk P stk hp s){I:Addr}(hn:s.heap.get? I=ac):Wen hp hp s.heap (one I) (λy=>False):=
 ⟨λy z=>.inl (z▸hn),λy z=>z▸(fz_of_new ok hn).1,λy y=>rfl⟩
theorem Wen.not{hp hpL:Hp}{h:Heap}{J Jo:Addr→Prop}(N:Wen hp hpL h J Jo){a:Addr}(e:hp a=ac){o:Obj}(g:h.get? a=some o):¬J a:=λz=>by
 rcases N.new a z with q|q
 ·rw[g]at q;cases q
 ·exact q.1 e
theorem Wen.up{hp hpL:Hp}{h:Heap}{J Jo:Addr→Prop}(N:Wen hp hpL h J Jo){a:Addr}(e:hp a=ac):hpL a=ac:=by
 by_cases z:J a
 ·exact N.off a z
 ·exact(N.on a z).trans e
theorem Wen.hp{hp hpL:Hp}{h:Heap}{J Jo:Addr→Prop}(N:Wen hp hpL h J Jo){a:Addr}{o:O}(e:hpL a=some o):hp a=some o:=by
 by_cases z:J a
 ·rw[N.off a z]at e;cases e
 ·exact(N.on a z).symm.trans e
theorem Wen.notStk{stk:Addr→Prop}{hp hpL:Hp}{s:af}{J Jo:Addr→Prop}(N:Wen hp hpL s.heap J Jo)(ok:HeapOk P stk hp s){a:Addr}(z:J a):¬stk a:=λq=>by
 rcases N.new a z with h|h
 ·obtain⟨o,g⟩:=ok.stkl a q;rw[h]at g;cases g
 ·exact ok.apart a h.1 q
theorem fzPlus{stk:Addr→Prop}{hp hpL:Hp}{h h':Heap}{J Jo:Addr→Prop}(N:Wen hp hpL h J Jo)(k:∀b o,h.get? b=some o→h'.get? b=some o):bB (Fz stk hp) (Fz (bP stk J) hpL) h h':=by
 intro a o i1_ g;refine i1_.elim λe n=>?_
 refine⟨⟨N.up e,?_⟩,k a o g⟩
 rintro(z|z)
 ·exact n z
 ·exact N.not e g z
theorem fzMinus{stk:Addr→Prop}{hp:Hp}{h:Heap}{J:Addr→Prop}:bB (Fz (bP stk J) hp) (Fz stk hp) h h:=λa o f g=>⟨⟨f.1,λz=>f.2 (.inl z)⟩,g⟩
theorem sU{stk:Addr→Prop}{hp hpL:Hp}{s:af}(ok:HeapOk P stk hp s){h':Heap}{tk:Nat}{J Jo:Addr→Prop}(N:Wen hp hpL s.heap J Jo)(k:∀b o,s.heap.get? b=some o→h'.get? b=some o)(hI:∀a,J a→∃o,h'.get? a=some o):HeapOk P (bP stk J) hpL {s with heap:=h',toks:=tk}:=by
 refine⟨λa o e=>(ok.obj a o (N.hp e)).keep (fzPlus N k) (λo g=>k a o g),λa e=>?_,λb o e=>k b o (ok.base b o e),λa e=>?_,λa z=>?_,λa z=>?_,ok.gens⟩
 ·rintro(z|z)
  ·exact ok.apart a (λq=>e (N.up q)) z
  ·exact e (N.off a z)
 ·exact ok.new a (λq=>e (N.up q))
 ·rcases z with z|z
  ·exact ok.stkn a z
  ·rcases N.new a z with q|q
   ·cases g:P.H₀.get? a with
    |none=>rfl
    |some o=>have:=ok.base a o g;rw[q]at this;cases this
   ·exact ok.new a q.1
 ·rcases z with z|z
  ·refine(ok.stkl a z).elim λo e=>?_;exact⟨o,k a o e⟩
  ·exact hI a z
theorem uc{stk:Addr→Prop}{hp:Hp}{s:af}{J:Addr→Prop}(ok:HeapOk P (bP stk J) hp s):HeapOk P stk hp s:=
 ⟨λa o e=>(ok.obj a o e).keep fzMinus (λo g=>g),λa e z=>ok.apart a e (.inl z),ok.base,ok.new,λa z=>ok.stkn a (.inl z),λa z=>ok.stkl a (.inl z),ok.gens⟩
theorem sY{stk:Addr→Prop}{hp hpL:Hp}{env:Env}{loc:aZ}{s:af}(ev:EnvOk P A stk hp env loc s){h':Heap}{tk:Nat}{J Jo:Addr→Prop}(N:Wen hp hpL s.heap J Jo)(k:∀b o,s.heap.get? b=some o→h'.get? b=some o):EnvOk P A (bP stk J) hpL env loc {s with heap:=h',toks:=tk}:=by
 have ky:=fzPlus (stk:=stk) N k
 refine⟨ev.kind,ev.glob,ev.blt,?_,λi v h kk=>?_,.inl ev.stkL,λn c h=>.inl (ev.stkC n c h),λn kk=>?_,ev.apart,ev.apartL,ev.frs.up (λa z=>.inl z) λb o x g d=>⟨o,k b o g,d⟩,ev.top⟩
 ·obtain⟨m,n,h⟩:=ev.ns
  exact⟨m,n.keeps k,λi v a b=>(by obtain⟨y,p,q⟩:=h i v a b;exact⟨y,p,q.keep ky⟩)⟩
 ·refine(ev.cell i v h kk).elim λc r1_=>r1_.elim λy r2_=>r2_.elim λp r3_=>r3_.elim λg q=>?_
  exact⟨c,y,p,g.keeps k,q.keep ky⟩
 ·refine(ev.cells n kk).elim λc r1_=>r1_.elim λy r2_=>r2_.elim λp g=>?_
  exact⟨c,y,p,g.keeps k⟩
theorem zA{stk:Addr→Prop}{hp:Hp}{env:Env}{loc:aZ}{s:af}{J:Addr→Prop}(ev:EnvOk P A (bP stk J) hp env loc s)(hL:stk env.locals)(hC:∀n c,env.cells.lookup n=some c→stk c)(hF:Fs A stk s):EnvOk P A stk hp env loc s:=by
 refine⟨ev.kind,ev.glob,ev.blt,?_,λi v h kk=>?_,hL,hC,ev.cells,ev.apart,ev.apartL,hF,ev.top⟩
 ·obtain⟨m,n,h⟩:=ev.ns
  exact⟨m,n,λi v a b=>(by obtain⟨y,p,q⟩:=h i v a b;exact⟨y,p,q.keep fzMinus⟩)⟩
 ·refine(ev.cell i v h kk).elim λc r1_=>r1_.elim λy r2_=>r2_.elim λp r3_=>r3_.elim λg q=>?_
  exact⟨c,y,p,g,q.keep fzMinus⟩
theorem rW{own stk:Addr→Prop}{hp hpL hp':Hp}{s s1 s':af}{J Jo:Addr→Prop}(e1:Ext own stk hp s hp s1)(N:Wen hp hpL s.heap J Jo)(e:Ext (bP own J) (bP stk J) hpL s1 hp' s'):Ext own stk hp s hp' s':=by
 refine⟨λb o h n g=>?_,λb o g=>?_,λb o st g d=>?_,λb h n=>?_,e.drawn.trans e1.drawn,e.os.trans e1.os⟩
 ·have ne:¬J b:=N.not h g
  have st:bP stk J b→stk b:=λz=>z.elim id λq=>absurd q ne
  rcases e1.keep b o h n g with g1|⟨a,d,sl,g1⟩
  ·rcases e.keep b o (N.up h) (λz=>z.elim n ne) g1 with g2|⟨a,d,sl,g2⟩
   ·exact .inl g2
   ·exact .inr ⟨st a,d,sl,g2⟩
  ·rcases e.keep b _ (N.up h) (λz=>z.elim n ne) g1 with g2|⟨_,_,sl2,g2⟩
   ·exact .inr ⟨a,d,sl,g2⟩
   ·exact .inr ⟨a,d,sl2,g2⟩
 ·refine(e1.there b o g).elim λo' g'=>?_;exact e.there b o' g'
 ·refine(e1.dic b o st g d).elim λo' r1_=>r1_.elim λg' d'=>?_
  exact e.dic b o' (.inl st) g' d'
 ·have:=e.fresh b (N.up h) n
  cases g:s.heap.get? b with
  |none=>rfl
  |some o=>obtain⟨o',g'⟩:=e1.there b o g;rw[this]at g';cases g'
theorem leaveI{own stk:Addr→Prop}{hp hpL hp2:Hp}{env:Env}{loc:aZ}{s s1 s2:af}{J Jo:Addr→Prop}{h':Heap}{tk:Nat}(e1:Ext own stk hp s hp s1)(N:Wen hp hpL s.heap J Jo)(e:Ext (bP own J) (bP stk J) hpL s1 hp2 s2)(hI:∀a,J a→¬stk a)(ok:HeapOk P (bP stk J) hp2 s2)(al:∀a,Jo a→∃o,h'.get? a=some o)
 (k:∀b o,¬J b→s2.heap.get? b=some o→h'.get? b=some o):Ext own stk hp s hp2 {s2 with heap:=h',toks:=tk}∧HeapOk P stk hp2 {s2 with heap:=h',toks:=tk}∧(stk env.locals→(∀n c,env.cells.lookup n=some c→stk c)→Fs A stk s→EnvOk P A (bP stk J) hp2 env loc s2→EnvOk P A stk hp2 env loc {s2 with heap:=h',toks:=tk}):=by
 have ne:∀a,stk a→¬J a:=λa z q=>hI a q z
 have ky:bB (Fz (bP stk J) hp2) (Fz stk hp2) s2.heap h':=λa o f g=>⟨⟨f.1,λz=>f.2 (.inl z)⟩,k a o (λq=>f.2 (.inr q)) g⟩
 have em:=rW e1 N e
 have ex:Ext own stk hp s hp2 {s2 with heap:=h',toks:=tk}:=by
  refine⟨λb o h n g=>?_,λb o g=>?_,λb o st g d=>?_,em.fresh,em.drawn,em.os⟩
  ·have nj:¬J b:=N.not h g
   rcases em.keep b o h n g with g1|⟨a,d,sl,g1⟩
   ·exact .inl (k b o nj g1)
   ·exact .inr ⟨a,d,sl,k b _ nj g1⟩
  ·by_cases q:J b
   ·rcases N.new b q with z|z
    ·rw[g]at z;cases z
    ·exact al b z.2
   ·obtain⟨o',g'⟩:=em.there b o g
    exact⟨o',k b o' q g'⟩
  ·refine(em.dic b o st g d).elim λo' r1_=>r1_.elim λg' d'=>?_
   exact⟨o',k b o' (ne b st) g',d'⟩
 refine⟨ex,⟨λa o h=>(ok.obj a o h).keep ky λo g=>k a o ?_ g,λa h z=>ok.apart a h (.inl z),λb o h=>k b o ?_ (ok.base b o h),ok.new,λa z=>ok.stkn a (.inl z),λa z=>?_,ok.gens⟩,λhL hC hF ev=>?_⟩
 ·intro q;exact ok.apart a (by rw[h];intro z;cases z) (.inr q)
 ·intro q;rw[ok.stkn b (.inr q)]at h;cases h
 ·refine(ok.stkl a (.inl z)).elim λo g=>?_;exact⟨o,k a o (ne a z) g⟩
 ·refine⟨ev.kind,ev.glob,ev.blt,?_,λi v h kk=>?_,hL,hC,λn kk=>?_,ev.apart,ev.apartL,hF.step ex,ev.top⟩
  ·obtain⟨m,⟨o,es,ep,g,r⟩,h⟩:=ev.ns
   exact⟨m,⟨o,es,ep,k _ _ (ne _ hL) g,r⟩,λi v a b=>(by obtain⟨y,p,q⟩:=h i v a b;exact⟨y,p,q.keep ky⟩)⟩
  ·refine(ev.cell i v h kk).elim λc r1_=>r1_.elim λy r2_=>r2_.elim λp r3_=>r3_.elim λe4_ q=>e4_.elim λo r5_=>r5_.elim λg r=>?_
   exact⟨c,y,p,⟨o,k _ _ (ne _ (hC _ _ p)) g,r⟩,q.keep ky⟩
  ·refine(ev.cells n kk).elim λc r1_=>r1_.elim λy r2_=>r2_.elim λp e3_=>e3_.elim λo r4_=>r4_.elim λg r=>?_
   exact⟨c,y,p,⟨o,k _ _ (ne _ (hC _ _ p)) g,r⟩⟩
structure BE(P:cH)(G:Expr→Prop)(R:(Addr→Prop)→Heap→Prop)(I:Addr)(J Jo:Addr→Prop)(vs:List V)(src:Hp→Prop)(St:Nat→Heap→Prop):Prop where
 item:∀(A:ax)(target:Expr)(i:Nat)(s:af)(hp:Hp)(stk:Addr→Prop)(Q:Value→af→Prop)(E:Value→af→Prop)(hi:i<vs.length),G target→A.handled=none→St i s.heap→HeapOk P stk hp s→R (Fz stk hp) s.heap→src hp→(∀a,J a→stk a)→
  (∀y h' tk,P.VR stk hp h' vs[i] y→St (i+1) h'→(∀b o,¬J b→s.heap.get? b=some o→h'.get? b=some o)→Q y {s with heap:=h',toks:=tk})→
  wpAny P.M A (pyNext (.ref I)) (λr s1=>∃y,r=some y∧wpAny P.M A (letOwnedTupleGo target (.ref I) y) (λz s2=>Q y s2) E s1) E s
 done:∀(A:ax)(s:af)(hp:Hp)(stk:Addr→Prop)(Q:af→Prop)(E:Value→af→Prop),A.handled=none→St vs.length s.heap→HeapOk P stk hp s→R (Fz stk hp) s.heap→src hp→(∀a,J a→stk a)→
  (∀h' tk,(∀b o,¬J b→s.heap.get? b=some o→h'.get? b=some o)→(∀a,Jo a→∃o,h'.get? a=some o)→Q {s with heap:=h',toks:=tk})→
  wpAny P.M A (pyNext (.ref I)) (λr s1=>r=ac∧Q s1) E s
 frame:∀i h h',St i h→(∀b,J b→∀o,h.get? b=some o→h'.get? b=some o)→St i h'
 self:∀(A:ax) i (s:af)(Q:Value→af→Prop)(E:Value→af→Prop),St i s.heap→Q (.ref I) s→wpAny P.M A (pyIter (.ref I)) Q E s
 live:∀i h,St i h→∀b,J b→∃o,h.get? b=some o∧¬ng o
 rk:∀F F' h h',bB F F' h h'→R F h→R F' h'
 own:J I
section
variable{G:Expr→Prop}{R:(Addr→Prop)→Heap→Prop}{I:Addr}{J Jo:Addr→Prop}{vs:List V}{src:Hp→Prop}{St:Nat→Heap→Prop}
theorem BE.alive(W:BE P G R I J Jo vs src St)(i:Nat)(h:Heap)(z:St i h):∀a,J a→∃o,h.get? a=some o:=λa q=>(by obtain⟨o,g,_⟩:=W.live i h z a q;exact⟨o,g⟩)
theorem BE.nd(W:BE P G R I J Jo vs src St){i:Nat}{h:Heap}(z:St i h):∀a,J a→∀o,h.get? a=some o→¬ng o:=λa q o g=>by
 obtain⟨o',g',n⟩:=W.live i h z a q
 rw[g]at g';cases g';exact n
end
noncomputable def Its(P:cH)(v:V)(vs:List V)(hp hpL:Hp)(G:Expr→Prop)(src:Hp→Prop):Prop:=
 ∀(A:ax)(s:af)(stk:Addr→Prop)(x:Value)(Q:Value→af→Prop)(E:Value→af→Prop),A.handled=none→HeapOk P stk hp s→P.VR stk hp s.heap v x→
  (∀I J Jo R St h',Wen hp hpL s.heap J Jo→(∀b o,s.heap.get? b=some o→h'.get? b=some o)→BE P G R I J Jo vs src St→St 0 h'→R (Fz stk hp) s.heap→Q (.ref I) {s with heap:=h'})→wpAny P.M A (pyIter x) Q E s
structure Ej(P:cH)(v:V)(x:Value)(I:Addr)(vs:List V)(src:Hp→Prop)(St:Nat→Heap→Prop):Prop where
 item:∀(A:ax)(target:Expr)(i:Nat)(s:af)(hp:Hp)(stk:Addr→Prop)(Q:Value→af→Prop)(E:Value→af→Prop)(hi:i<vs.length),A.handled=none→St i s.heap→HeapOk P stk hp s→P.VR stk hp s.heap v x→src hp→stk I→
  (∀y h' tk,P.VR stk hp h' vs[i] y→St (i+1) h'→(∀b o,b≠I→s.heap.get? b=some o→h'.get? b=some o)→Q y {s with heap:=h',toks:=tk})→
  wpAny P.M A (pyNext (.ref I)) (λr s1=>∃y,r=some y∧wpAny P.M A (letOwnedTupleGo target (.ref I) y) (λz s2=>Q y s2) E s1) E s
 done:∀(A:ax)(s:af)(hp:Hp)(stk:Addr→Prop)(Q:af→Prop)(E:Value→af→Prop),A.handled=none→St vs.length s.heap→HeapOk P stk hp s→P.VR stk hp s.heap v x→src hp→stk I→
  (∀h' tk,(∀b o,b≠I→s.heap.get? b=some o→h'.get? b=some o)→Q {s with heap:=h',toks:=tk})→
  wpAny P.M A (pyNext (.ref I)) (λr s1=>r=ac∧Q s1) E s
 frame:∀i h h',St i h→(∀o,h.get? I=some o→h'.get? I=some o)→St i h'
 self:∀(A:ax) i (s:af)(Q:Value→af→Prop)(E:Value→af→Prop),St i s.heap→Q (.ref I) s→wpAny P.M A (pyIter (.ref I)) Q E s
 live:∀i h,St i h→∃o,h.get? I=some o∧¬ng o
noncomputable def Its1(P:cH)(v:V)(vs:List V)(hp:Hp)(src:Hp→Prop):Prop:=
 ∀(A:ax)(s:af)(stk:Addr→Prop)(x:Value)(Q:Value→af→Prop)(E:Value→af→Prop),A.handled=none→HeapOk P stk hp s→P.VR stk hp s.heap v x→
  (∀I St h',s.heap.get? I=ac→(∀b o,s.heap.get? b=some o→h'.get? b=some o)→Ej P v x I vs src St→St 0 h'→Q (.ref I) {s with heap:=h'})→wpAny P.M A (pyIter x) Q E s
theorem Its1.its{v:V}{vs:List V}{hp:Hp}{src:Hp→Prop}(h:Its1 P v vs hp src):Its P v vs hp hp (λy=>True) src:=by
 intro A s stk x Q E hh ok r k
 refine h A s stk x Q E hh ok r λI St h' hn kp W st0=>?_
 refine k I (one I) (λy=>False) (λF h=>VR P.nm F h v x) St h' (Wen.one ok hn) kp ⟨λA t i s hp stk Q E hi y hh st ok r hv hI q=>W.item A t i s hp stk Q E hi hh st ok r hv (hI I rfl) q,λA s hp stk Q E hh st ok r hv hI q=>W.done A s hp stk Q E hh st ok r hv (hI I rfl) λh' tk k2=>q h' tk k2 λy z=>z.elim,λi h h' st kk=>W.frame i h h' st λo g=>kk I rfl o g,W.self,λi h st b z=>z▸W.live i h st,λF F' h h' ky r=>VR.keep ky r,rfl⟩ st0 r
noncomputable def ub(T:String):Bool:= !["enumerate", "zip", "dict_itemiterator", "dict_reverseitemiterator", "odict_iterator", "itertools.zip_longest", "itertools.pairwise"].contains T
theorem dR{A:ax}{s:af}{E:Value→af→Prop}{target:Expr}{I:Addr}{o:Obj}{T:String}{y:Value}{Q:Unit→af→Prop}(ho:s.heap.get? I=some o)(hc:o.cls= .type T)(hT:ub T=true)(hq:Q () s):wpAny P.M A (letOwnedTupleGo target (.ref I) y) Q E s:=by
 have h2:wpAny P.M A (do let (.ref r,.ref a):=(dq I,y)|return
                         let o←load r
                         match o.cls,o.data with
                         | .type n,.fields vs=>
                           if ["enumerate", "zip", "dict_itemiterator", "dict_reverseitemiterator", "odict_iterator", "itertools.zip_longest", "itertools.pairwise"].contains n&&vs[0]?==some (rawInt a)then
                            rule "for.unpacks-the-owned-tuple"
                            updateField r 0 .none
                         |_,_=>pure ()) Q E s:=by
  cases y with
  |ref a=>
   refine wpAny_bind (wpAny_load ho ?_)
   obtain⟨c,dd,dt,sl⟩:=o
   simp only at hc
   subst hc
   cases dt<;>first|exact wpAny_pure hq|skip
   have hT':(["enumerate", "zip", "dict_itemiterator", "dict_reverseitemiterator", "odict_iterator", "itertools.zip_longest", "itertools.pairwise"].contains T)=false:=by
    unfold ub at hT;simpa using hT
   simp only[hT',AA,cg,if_false]
   exact wpAny_pure hq
  |_=>exact wpAny_pure hq
 unfold letOwnedTupleGo
 cases target<;>first|exact wpAny_pure hq|exact h2
theorem nD_fields{o:Obj}{vs:Array Value}(h:o.data= .fields vs):¬ng o:=by rintro⟨es,n,e⟩;rw[h]at e;cases e
theorem its_list{v:V}{vs:List V}{hp:Hp}(h:bL hp v=some vs):Its1 P v vs hp (λhp'=>bL hp' v=some vs):=by
 intro A s stk x Q E hh ok r k
 obtain⟨a,xs,rfl,p,rx⟩:=aU ok r h
 refine BJ p.isList (k _ (λi h=>h.IsListIter s.heap.objs.size a i) _ (cX _) (λb o e=>aj _ e) ?_ ⟨_,aq _ rfl,rfl,rfl⟩)
 refine⟨λA target i s hp stk Q E hi hh st ok r hv hI q=>?_,λA s hp stk Q E hh st ok r hv hI q=>?_,λi h h' st kk=>?_,λA i s Q E st q=>wpAny_pyIter_listiter st q,(by rintro i h ⟨o,e,_,z⟩;exact⟨o,e,nD_fields z⟩)⟩
 ·obtain⟨a',xs,e,p,rx⟩:=aU ok r hv
  cases e
  obtain⟨y,ey,ry⟩:=rx.get (au hi)
  refine wpAny_pyNext_list_item st p.isList (x:=y) (by rw[←bg];exact ey) λh' st' sb=>⟨y,rfl,?_⟩
  refine(id st').elim λo r1_=>r1_.elim λho r2_=>r2_.elim λhc w=>?_
  refine dR (T:= "list_iterator") ho hc (by decide) (q y h' s.toks (ry.keep ?_) st' λb o n e=>(sb.2 b n).trans e)
  rintro c oc f g
  exact⟨f,(sb.2 c (λz=>f.2 (z▸hI))).trans g⟩
 ·obtain⟨a',xs,e,p,rx⟩:=aU ok r hv
  cases e
  have hl:=rx.length
  refine wpAny_pyNext_list_end hh st p.isList (by rw[←bg];exact bH (by lia)) λh' sb=>⟨rfl,q h' s.toks λb o n e=>sb b o n e⟩
 ·refine st.elim λo r1_=>r1_.elim λe z=>?_;exact⟨o,kk o e,z⟩
end Mine
namespace Mine
variable{P:cH}{Fl:f9}{d:Nat}{sc:Scope}
theorem its_tup{vs:List V}{hp:Hp}:Its1 P (.tup vs) vs hp (λw=>True):=by
 intro A s stk x Q E hh ok r k
 obtain⟨a,xs,rfl,f,⟨n,g⟩,rx⟩:=r
 refine wpAny_pyIter_tuple (t:=a) (items:=xs) ⟨_,g,rfl,n,rfl⟩ (k _ (λi h=>h.IsTupleIter s.heap.objs.size a i) _ (cX _) (λb o e=>aj _ e) ?_ ⟨_,aq _ rfl,rfl,rfl⟩)
 refine⟨λA target i s hp stk Q E hi hh st ok r hv hI q=>?_,λA s hp stk Q E hh st ok r hv hI q=>?_,λi h h' st kk=>?_,λA i s Q E st q=>wpAny_pyIter_tupleiter st q,(by rintro i h ⟨o,e,_,z⟩;exact⟨o,e,nD_fields z⟩)⟩
 ·obtain⟨a',xs,e,f,⟨n,g⟩,rx⟩:=r
  cases e
  obtain⟨y,ey,ry⟩:=rx.get (au hi)
  refine wpAny_pyNext_tuple_item st (items:=xs) ⟨_,g,rfl,n,rfl⟩ (x:=y) (by rw[←bg];exact ey) λh' st' sb=>⟨y,rfl,?_⟩
  refine(id st').elim λo r1_=>r1_.elim λho r2_=>r2_.elim λhc w=>?_
  refine dR (T:= "tuple_iterator") ho hc (by decide) (q y h' s.toks (ry.keep ?_) st' λb o n e=>(sb.2 b n).trans e)
  rintro c oc f g
  exact⟨f,(sb.2 c (λz=>f.2 (z▸hI))).trans g⟩
 ·obtain⟨a',xs,e,f,⟨n,g⟩,rx⟩:=r
  cases e
  have hl:=rx.length
  exact wpAny_pyNext_tuple_end hh st (items:=xs) ⟨_,g,rfl,n,rfl⟩ (by rw[←bg];exact bH (by lia)) λh' sb=>⟨rfl,q h' s.toks λb o n e=>sb b o n e⟩
 ·refine st.elim λo r1_=>r1_.elim λe z=>?_;exact⟨o,kk o e,z⟩
noncomputable def dK(lo hi:Int):List V:=(aV (hi - lo).toNat).map λk=>.int (lo+(k:Nat))
theorem m5{lo hi:Int}{i:Nat}(h:i<(dK lo hi).length):(dK lo hi)[i]= .int (lo+i):=by simp[dK]
theorem gJ{lo hi:Int}:(dK lo hi).length=(hi - lo).toNat:=by simp[dK]
theorem kX(lo hi:Int):cK lo hi 1=((hi - lo).toNat:Int):=by
 unfold cK
 split
 ·simp;split<;>lia
 ·lia
theorem its_rng{lo hi:Int}{hp:Hp}(hs:cS lo hi 1=true∨hi≤lo):Its1 P (.rng lo hi) (dK lo hi) hp (λz=>True):=by
 intro A s stk x Q E hh ok r k
 obtain⟨a,t,u,v,rfl,f,g⟩:=r
 by_cases hsm:cS lo hi 1=true
 ·refine wpAny_pyIter_range g hsm (k _ (λi h=>IsRangeIter h s.heap.objs.size (lo+i) (((hi - lo).toNat:Int) - i) 1) _ (cX _) (λb o e=>aj _ e) ?_ ?_)
  ·refine⟨λA target i s hp stk Q E hi' hh st ok r hv hI q=>?_,λA s hp stk Q E hh st ok r hv hI q=>?_,λi h h' st kk=>kk _ st,λA i s Q E st q=>wpAny_pyIter_rangeiter st q,λi h e=>⟨_,e,nD_fields rfl⟩⟩
   ·rw[gJ]at hi'
    refine wpAny_pyNext_range_item st (by lia) λh' st' sb=>⟨_,rfl,?_⟩
    have e1:lo+(i:Int)+1=lo+((i+1:Nat):Int):=by lia
    have e2:((hi - lo).toNat:Int) - (i:Int) - 1=((hi - lo).toNat:Int) - ((i+1:Nat):Int):=by lia
    refine dR (T:= "range_iterator") st' rfl (by decide) (q _ h' _ ?_ (by rw[←e1,←e2];exact st') λb o n e=>(sb.2 b n).trans e)
    rw[m5];exact vInt
   ·rw[gJ]at st
    exact wpAny_pyNext_range_end hh st (by lia) λh' sb=>⟨rfl,q h' s.toks λb o n e=>sb b o n e⟩
  ·have:=kX lo hi
   rw[←this]
   have e:=aq s.heap (o:={cls:=.type "range_iterator",data:=.fields #[rawInt lo,rawInt (cK lo hi 1),rawInt 1]}) rfl
   simpa using e
 ·have hle:hi≤lo:=hs.resolve_left hsm
  have hb:cS lo hi 1=false:=by simpa using hsm
  have hz:cK lo hi 1=0:=by rw[kX];lia
  refine wpAny_pyIter_longrange g hb (k _ (λi h=>i=0∧IsLongIter h s.heap.objs.size lo 0 1) _ (cX _) (λb o e=>aj _ e) ?_ ?_)
  ·refine⟨λA target i s hp stk Q E hi' hh st ok r hv hI q=>?_,λA s hp stk Q E hh st ok r hv hI q=>?_,λi h h' st kk=>⟨st.1,kk _ st.2⟩,λA i s Q E st q=>wpAny_pyIter_longiter st.2 q,λi h e=>⟨_,e.2,nD_fields rfl⟩⟩
   ·rw[gJ]at hi';lia
   ·exact wpAny_pyNext_long_end hh st.2 (lc _) λh' sb=>⟨rfl,q h' s.toks λb o n e=>sb b o n e⟩
  ·refine⟨rfl,?_⟩
   have e:=aq s.heap (o:={cls:=.type "longrange_iterator",data:=.fields #[rawInt lo,rawInt (cK lo hi 1),rawInt 1]}) rfl
   rw[hz]at e⊢
   exact e
theorem qD{F:Addr→Prop}{h:Heap}:∀{es:List (Int×V)}{kvs:List (Int×Value)}{i:Nat}{k:Int}{v:V},ER P.nm F h es kvs→es[i]?=some (k,v)→∃x,kvs[i]?=some (k,x)∧VR P.nm F h v x
 | [],_,_,_,_,_,e=>by cases e
 |(k,v)::es,kvs,0,_,_,r,e=>by
  obtain⟨y,ys,rfl,p,_⟩:=r
  cases e
  exact⟨y,rfl,p⟩
 |(k,v)::es,kvs,i+1,_,_,r,e=>by
  obtain⟨y,ys,rfl,p,q⟩:=r
  have:=qD q (i:=i) (by simpa using e)
  simpa using this
theorem jw{F:Addr→Prop}{h:Heap}:∀{es:List (Int×V)}{kvs:List (Int×Value)},ER P.nm F h es kvs→kvs.length=es.length:=by
 intro xs_
 induction xs_ with
 |nil=>
  intro _ r
  cases r;rfl
 |cons e_ es ih=>
  obtain⟨k,v⟩:=e_
  intro kvs r
  obtain⟨y,ys,rfl,p,q⟩:=r
  simp[ih q]
theorem its_keys(hz:(P.H₀.get? sysModules).isSome=true){a:Addr}{es:List (Int×V)}{ep:Nat}{hp:Hp}(h:hp a=some (.dict es ep)):Its1 P (.ref a) (es.map λe=>.int e.1) hp (λhp'=>hp' a=some (.dict es ep)):=by
 intro A s stk x Q E hh ok r k
 cases r
 refine(ok.obj a _ h).elim λkvs r1_=>r1_.elim λhd er=>?_
 have hs:=ku ok h hz
 have hlen:=jw er
 refine wpAny_pyIter_dict hs hd (k _ (λi h=>h.IsKeyIter s.heap.objs.size a i es.length ep) _ (cX _) (λb o e=>aj _ e) ?_ ⟨_,aq _ rfl,rfl,by rw[hlen];rfl⟩)
 refine⟨λA target i s hp stk Q E hi hh st ok r hv hI q=>?_,λA s hp stk Q E hh st ok r hv hI q=>?_,λi h h' st kk=>?_,λA i s Q E st q=>wpAny_pyIter_keyiter st q,(by rintro i h ⟨o,e,_,z⟩;exact⟨o,e,nD_fields z⟩)⟩
 ·refine(ok.obj a _ hv).elim λkvs r1_=>r1_.elim λhd er=>?_
  have hlen:=jw er
  have hi2:i<es.length:=by simpa using hi
  obtain⟨y,ey,ry⟩:=qD er (i:=i) (k:=es[i].1) (v:=es[i].2) (au hi2)
  refine wpAny_pyNext_dict_item (by rw[hlen];exact st) hd ey λkey h' hk st' sb=>⟨key,rfl,?_⟩
  rw[hlen]at st'
  refine(id st').elim λo r1_=>r1_.elim λho r2_=>r2_.elim λhc w=>?_
  obtain⟨t,rfl⟩:=v6 hk
  refine dR (T:= "dict_keyiterator") ho hc (by decide) (q _ h' s.toks ?_ st' λb o n e=>(sb.2 b n).trans e)
  rw[jR];exact vInt
 ·refine(ok.obj a _ hv).elim λkvs r1_=>r1_.elim λhd er=>?_
  have hlen:=jw er
  rw[ak]at st
  exact wpAny_pyNext_dict_end hh (by rw[hlen];exact st) hd (bH (by lia)) λh' sb=>⟨rfl,q h' s.toks λb o n e=>sb b o n e⟩
 ·refine st.elim λo r1_=>r1_.elim λe z=>?_;exact⟨o,kk o e,z⟩
theorem its_vals{a:Addr}{es:List (Int×V)}{ep:Nat}{hp:Hp}(h:hp a=some (.dict es ep)):Its1 P (.vals false a) (es.map λe=>e.2) hp (λhp'=>hp' a=some (.dict es ep)):=by
 intro A s stk x Q E hh ok r k
 obtain⟨v,rfl,f,g⟩:=r
 refine(ok.obj a _ h).elim λkvs r1_=>r1_.elim λhd er=>?_
 have hlen:=jw er
 refine wpAny_pyIter_values (v:=v) ⟨_,g,rfl,rfl⟩ hd (k _ (λi h=>h.IsValIter s.heap.objs.size a i es.length ep) _ (cX _) (λb o e=>aj _ e) ?_ ⟨_,aq _ rfl,rfl,by rw[hlen];rfl⟩)
 refine⟨λA target i s hp stk Q E hi hh st ok r hv hI q=>?_,λA s hp stk Q E hh st ok r hv hI q=>?_,λi h h' st kk=>?_,λA i s Q E st q=>wpAny_pyIter_valiter st q,(by rintro i h ⟨o,e,_,z⟩;exact⟨o,e,nD_fields z⟩)⟩
 ·refine(ok.obj a _ hv).elim λkvs r1_=>r1_.elim λhd er=>?_
  have hlen:=jw er
  have hi2:i<es.length:=by simpa using hi
  obtain⟨y,ey,ry⟩:=qD er (i:=i) (k:=es[i].1) (v:=es[i].2) (au hi2)
  refine wpAny_pyNext_values_item (by rw[hlen];exact st) hd ey λh' st' sb=>⟨y,rfl,?_⟩
  rw[hlen]at st'
  refine(id st').elim λo r1_=>r1_.elim λho r2_=>r2_.elim λhc w=>?_
  refine dR (T:= "dict_valueiterator") ho hc (by decide) (q _ h' s.toks ?_ st' λb o n e=>(sb.2 b n).trans e)
  rw[jR]
  refine ry.keep ?_
  rintro c oc f g
  exact⟨f,(sb.2 c (λz=>f.2 (z▸hI))).trans g⟩
 ·refine(ok.obj a _ hv).elim λkvs r1_=>r1_.elim λhd er=>?_
  have hlen:=jw er
  rw[ak]at st
  exact wpAny_pyNext_values_end hh (by rw[hlen];exact st) hd (bH (by lia)) λh' sb=>⟨rfl,q h' s.toks λb o n e=>sb b o n e⟩
 ·refine st.elim λo r1_=>r1_.elim λe z=>?_;exact⟨o,kk o e,z⟩
theorem its_str{l:List Nat}{hp:Hp}(ha:l.all (·<128)=true):Its1 P (.str l) (l.map λc=>.str [c]) hp (λy=>True):=by
 intro A s stk x Q E hh ok r k
 obtain⟨t,rfl⟩:=r
 have hT:strIterType ⟨l.toArray⟩= "str_ascii_iterator" :=by unfold strIterType;rw[if_pos (by simpa using ha)]
 refine wpAny_pyIter_strU ?_
 rw[hT]
 refine k _ (λi h=>h.IsStrIter s.heap.objs.size "str_ascii_iterator" ⟨l.toArray⟩ t i) _ (cX _) (λb o e=>aj _ e) ?_ ⟨_,aq _ rfl,rfl,rfl⟩
 refine⟨λA target i s hp stk Q E hi hh st ok r hv hI q=>?_,λA s hp stk Q E hh st ok r hv hI q=>?_,λi h h' st kk=>?_,λA i s Q E st q=>wpAny_pyIter_striter_ascii st q,(by rintro i h ⟨o,e,_,z⟩;exact⟨o,e,nD_fields z⟩)⟩
 ·have hi2:i<l.length:=by simpa using hi
  refine wpAny_pyNext_ascii_item st (c:=l[i]) (by simp[hi2]) λh' st' sb=>⟨_,rfl,?_⟩
  refine(id st').elim λo r1_=>r1_.elim λho r2_=>r2_.elim λhc y=>?_
  refine dR (T:= "str_ascii_iterator") ho hc (by decide) (q _ h' _ ?_ st' λb o n e=>(sb.2 b n).trans e)
  rw[jR];exact wf
 ·rw[ak]at st
  exact wpAny_pyNext_ascii_end hh st (by simp) λh' sb=>⟨rfl,q h' s.toks λb o n e=>sb b o n e⟩
 ·refine st.elim λo r1_=>r1_.elim λe z=>?_;exact⟨o,kk o e,z⟩
end Mine
namespace Mine
variable{P:cH}{Fl:f9}{d:Nat}{sc:Scope}
noncomputable def dp(hp:Hp):V→Option (List V)
 | .tup vs=>some vs
 | .lst vs=>some vs
 | .ref a=>match hp a with
   |some (.lst vs)=>some vs
   |some (.dict es _)=>some (es.map λe=>.int e.1)
   |_=>ac
 | .vals false a=>match hp a with
   |some (.dict es _)=>some (es.map λe=>e.2)
   |_=>ac
 | .rng lo hi=>if cS lo hi 1=true∨hi≤lo then some (dK lo hi)else ac
 | .str l=>if l.all (·<128)=true then some (l.map λc=>.str [c])else ac
 |_=>ac
noncomputable def same(v:V)(hp hp':Hp):Prop:=match v with
 | .ref a=>hp' a=hp a
 | .vals _ a=>hp' a=hp a
 |_=>True
theorem m7{hp:Hp}{a:Addr}{us:List V}(h:hp a=some (.lst us)):dp hp (.ref a)=some us:=congrArg (λo:Option O=>match o with|some (O.lst vs)=>some vs|some (.dict es _)=>some (es.map λe:Int×V=>V.int e.1)|_=>ac) h
theorem qV{hp:Hp}{a:Addr}{es:List (Int×V)}{ep:Nat}(h:hp a=some (.dict es ep)):dp hp (.ref a)=some (es.map λe=>.int e.1):=congrArg (λo:Option O=>match o with|some (O.lst vs)=>some vs|some (.dict es _)=>some (es.map λe:Int×V=>V.int e.1)|_=>ac) h
theorem qU{hp:Hp}{a:Addr}{es:List (Int×V)}{ep:Nat}(h:hp a=some (.dict es ep)):dp hp (.vals false a)=some (es.map λe=>e.2):=congrArg (λo:Option O=>match o with|some (O.dict es _)=>some (es.map λe:Int×V=>e.2)|_=>ac) h
theorem pX(v:V)(hp:Hp):same v hp hp:=by cases v<;>first|exact trivial|exact rfl
theorem Its1.mono{v:V}{vs:List V}{hp:Hp}{src src':Hp→Prop}(h:Its1 P v vs hp src)(k:∀hp',src' hp'→src hp'):Its1 P v vs hp src':=
 λA s stk x Q E hh ok r q=>h A s stk x Q E hh ok r λI St h' a b W c=>q I St h' a b ⟨λA t i s hp stk Q E hi hh st ok r hv=>W.item A t i s hp stk Q E hi hh st ok r (k hp hv),λA s hp stk Q E hh st ok r hv=>W.done A s hp stk Q E hh st ok r (k hp hv),W.frame,W.self,W.live⟩ c
theorem zt(hz:(P.H₀.get? sysModules).isSome=true){v:V}{vs:List V}{hp:Hp}(h:dp hp v=some vs):Its1 P v vs hp (same v hp):=by
 cases v with
 |tup us=>cases h;exact its_tup.mono λz z=>trivial
 |lst us=>cases h;exact(its_list (hp:=hp) rfl).mono λhp' z=>rfl
 |ref a=>
  change (match hp a with|some (.lst vs)=>some vs|some (.dict es _)=>some (es.map λe:Int×V=>V.int e.1)|_=>ac)=_ at h
  cases hu:hp a with
  |none=>rw[hu]at h;cases h
  |some o=>
   rw[hu]at h
   cases o with
   |lst us=>cases h;exact(its_list (hp:=hp) (v:=.ref a) (listOf_ref hu)).mono λhp' e=>listOf_ref (q8 e hu)
   |dict es ep=>cases h;exact(its_keys hz hu).mono λhp' e=>q8 e hu
   |_=>cases h
 |vals b a=>
  cases b with
  |true=>cases h
  |false=>
   change (match hp a with|some (.dict es _)=>some (es.map λe:Int×V=>e.2)|_=>ac)=_ at h
   cases hu:hp a with
   |none=>rw[hu]at h;cases h
   |some o=>
    rw[hu]at h
    cases o with
    |dict es ep=>cases h;exact(its_vals hu).mono λhp' e=>q8 e hu
    |_=>cases h
 |rng lo hi=>
  by_cases hc:cS lo hi 1=true∨hi≤lo
  ·cases (if_pos hc).symm.trans h;exact(its_rng hc).mono λz z=>trivial
  ·cases (if_neg hc).symm.trans h
 |str l=>
  by_cases hc:l.all (·<128)=true
  ·cases (if_pos hc).symm.trans h;exact(its_str hc).mono λz z=>trivial
  ·cases (if_neg hc).symm.trans h
 |_=>cases h
theorem its_of(hz:(P.H₀.get? sysModules).isSome=true){v:V}{vs:List V}{hp:Hp}(h:dp hp v=some vs):Its P v vs hp hp (λz=>True) (same v hp):=(zt hz h).its
noncomputable def pn:XS:=λz z z=>False
noncomputable def de(v:V)(hp0:Hp)(t:DA)(b:DS)(Q:Fw→aZ→Hp→Prop):List V→aZ→Hp→Prop
 | [],loc,hp=>Q .next loc hp
 |u::us,loc,hp=>t u (λloc1 hp1=>b (λw loc2 hp2=>match w with
   | .next=>same v hp0 hp2∧de v hp0 t b Q us loc2 hp2
   | .cont=>same v hp0 hp2∧de v hp0 t b Q us loc2 hp2
   | .brk=>Q .next loc2 hp2
   | .ret r=>Q (.ret r) loc2 hp2) pn loc1 hp1) pn loc hp
theorem Bg{v:V}{hp0:Hp}{t:DA}{b:DS}{Q:Fw→aZ→Hp→Prop}{loc:aZ}{hp:Hp}:de v hp0 t b Q [] loc hp=Q .next loc hp:=rfl
theorem Bh{v:V}{hp0:Hp}{t:DA}{b:DS}{Q:Fw→aZ→Hp→Prop}{loc:aZ}{hp:Hp}{u:V}{us:List V}:de v hp0 t b Q (u::us) loc hp=t u (λloc1 hp1=>b (λw loc2 hp2=>match w with
 | .next=>same v hp0 hp2∧de v hp0 t b Q us loc2 hp2
 | .cont=>same v hp0 hp2∧de v hp0 t b Q us loc2 hp2
 | .brk=>Q .next loc2 hp2
 | .ret r=>Q (.ret r) loc2 hp2) pn loc1 hp1) pn loc hp:=rfl
noncomputable def jr(e:DE)(t:DA)(b:DS):DS:=λQ X loc hp=>e (λv hp1=>∃vs,dp hp1 v=some vs∧de v hp1 t b Q vs loc hp1) (λk hp'=>X k loc hp') loc hp
theorem Ad{own stk:Addr→Prop}{J:Addr→Prop}{hp:Hp}{s':af}{h2:Heap}{tk:Nat}(hal:∀a,J a→∃o,h2.get? a=some o)(nd:∀a,J a→∀o,s'.heap.get? a=some o→¬ng o)(k2:∀b o,¬J b→s'.heap.get? b=some o→h2.get? b=some o):Ext (bP own J) (bP stk J) hp s' hp {s' with heap:=h2,toks:=tk}:=
 .exact (λb o y n g=>k2 b o (λz=>n (.inr z)) g) (λb o g=>by
  by_cases q:J b
  ·exact hal b q
  ·exact⟨o,k2 b o q g⟩) (λb o y g d=>⟨o,k2 b o (λz=>nd b z o g d) g,d⟩) (λy a b=>absurd a b) rfl rfl
theorem B9{P:cH}{stk:Addr→Prop}{J:Addr→Prop}{hp:Hp}{s':af}{h2:Heap}{tk:Nat}(ok':HeapOk P (bP stk J) hp s')(hal:∀a,J a→∃o,h2.get? a=some o)(ky:bB (Fz (bP stk J) hp) (Fz (bP stk J) hp) s'.heap h2)(k2:∀b o,¬J b→s'.heap.get? b=some o→h2.get? b=some o):HeapOk P (bP stk J) hp {s' with heap:=h2,toks:=tk}:=by
 refine⟨λa o g=>(ok'.obj a o g).keep ky λo z=>k2 a o (λe=>?_) z,ok'.apart,λb o g=>k2 b o (λe=>?_) (ok'.base b o g),ok'.new,ok'.stkn,λa z=>?_,ok'.gens⟩
 ·exact ok'.apart a (by rw[g];intro z;cases z) (.inr e)
 ·rw[ok'.stkn b (.inr e)]at g;cases g
 ·by_cases q:J a
  ·exact hal a q
  ·obtain⟨o,g⟩:=ok'.stkl a z;exact⟨o,k2 a o q g⟩
theorem Ca{P:cH}{A:ax}{stk:Addr→Prop}{env:Env}{loc:aZ}{J:Addr→Prop}{hp:Hp}{s':af}{h2:Heap}{tk:Nat}{own:Addr→Prop}(ev':EnvOk P A stk hp env loc s')(e3:Ext own stk hp s' hp {s' with heap:=h2,toks:=tk})(hLI:¬J env.locals)(hCI:∀n c,env.cells.lookup n=some c→¬J c)(ky:bB (Fz stk hp) (Fz stk hp) s'.heap h2)(k2:∀b o,¬J b→s'.heap.get? b=some o→h2.get? b=some o):EnvOk P A stk hp env loc {s' with heap:=h2,toks:=tk}:=by
 refine⟨ev'.kind,ev'.glob,ev'.blt,?_,λj u g kk=>?_,ev'.stkL,ev'.stkC,λn kk=>?_,ev'.apart,ev'.apartL,ev'.frs.step e3,ev'.top⟩
 ·refine ev'.ns.elim λm r1_=>r1_.elim λe2_ hm=>e2_.elim λo r3_=>r3_.elim λes r4_=>r4_.elim λep r5_=>r5_.elim λg rr=>?_
  exact⟨m,⟨o,es,ep,k2 _ _ hLI g,rr⟩,λj u a b=>(by obtain⟨z,p,q⟩:=hm j u a b;exact⟨z,p,q.keep ky⟩)⟩
 ·refine(ev'.cell j u g kk).elim λc r1_=>r1_.elim λz r2_=>r2_.elim λp r3_=>r3_.elim λe4_ q=>e4_.elim λo r5_=>r5_.elim λg rr=>?_
  exact⟨c,z,p,⟨o,k2 _ _ (hCI _ _ p) g,rr⟩,q.keep ky⟩
 ·refine(ev'.cells n kk).elim λc r1_=>r1_.elim λz r2_=>r2_.elim λp e3_=>e3_.elim λo r4_=>r4_.elim λg rr=>?_
  exact⟨c,z,p,⟨o,k2 _ _ (hCI _ _ p) g,rr⟩⟩
inductive Mv(J:Addr→Prop)(s':af)(G:Heap→Prop)(s2:af):Prop
 |intro (h2:Heap) (tk:Nat) (e:s2={s' with heap:=h2,toks:=tk}) (g:G h2) (k:∀b o,¬J b→s'.heap.get? b=some o→h2.get? b=some o):Mv J s' G s2
inductive Ci(P:cH)(A:ax)(stk:Addr→Prop)(env:Env)(R:(Addr→Prop)→Heap→Prop)(J:Addr→Prop)(hp1:Hp)(s1:af)(src:Hp→Prop)(St:Nat→Heap→Prop)(vs:List V)(L:List V→aZ→Hp→Prop)(n:Nat)(s':af):Prop
 |intro (i:Nat) (loc':aZ) (hp':Hp) (hn:n=vs.length+1 - i) (hi:i≤vs.length) (st:St i s'.heap) (ee:Ext (bP (gc env) J) (bP stk J) hp1 s1 hp' s') (ok:HeapOk P (bP stk J) hp' s') (ev:EnvOk P A (bP stk J) hp' env loc' s') (r:R (Fz (bP stk J) hp') s'.heap) (sm:src hp') (lp:L (vs.drop i) loc' hp'):Ci P A stk env R J hp1 s1 src St vs L n s'
theorem B4{P:cH}{Fl:f9}{A:ax}{own stk:Addr→Prop}{env:Env}(E:Value→af→Prop)(hpx:Hp)(sx:af)(e:Value)(s'':af)(z:PostT P own stk hpx sx (QX P Fl A stk env pn) e s''):E e s'':=by
 obtain⟨_,_,_,k,l,_,hx,_⟩:=z
 exact hx.elim
theorem nL{n i:Nat}(h:i<n):n+1 - (i+1)<n+1 - i:=by
 rw[Nat.add_sub_add_right];exact Nat.sub_lt_sub_right (dx h) (cR n)
theorem SimS.forG{t e:Expr}{body:List Stmt}{pos:Pos}{D:DE}{Dt:DA}{it:List Nat}{Db:DS}{G:Expr→Prop}(hG:G t)(hd:0<d)(h:bz P Fl d sc e D)(ht:SimG P Fl d sc t it Dt)(hb:SimSs P Fl d sc body Db)
 (hfs:∀env x,foldedSetIterable e env x=pure x)(htm:∀v Q X loc hp,Dt v Q X loc hp→Dt v (λloc' hp'=>hp'=hp∧Q loc' hp') X loc hp)
 {A:ax}{env:Env}{s:af}{Q:Fw→aZ→Hp→Prop}{X:XS}{loc:aZ}{hp:Hp}{stk:Addr→Prop}(rm:dY d A)(hs:env.scope=sc)(ev:EnvOk P A stk hp env loc s)(ok:HeapOk P stk hp s)
 {Qe:V→Hp→Prop}(hQe:∀v hp1,Qe v hp1→∃vs hpL u,Its P v vs hp1 hpL G (same u hpL)∧de u hpL Dt Db Q vs loc hpL)(hD:D Qe (λk hp'=>X k loc hp') loc hp):
 T P (gc env) stk A (exec (.For t e body [] pos) env) hp s (QS P A stk env Q) (QX P Fl A stk env X):=by
 refine wpAny_For (E2 h rm hs ev ok hD λv x hp1 s1 e1 ev1 ok1 hq r=>?_) (hfs env)
 obtain⟨vs,hpL,u,hv,hl⟩:=hQe v hp1 hq
 refine hv A s1 stk x _ _ (rm.hd hd) ok1 r λI J Jo R St h' N kp W st0 r0=>?_
 have hI:∀a,J a→¬stk a:=λa z=>N.notStk ok1 z
 have e2:Ext (gc env) stk hp1 s1 hp1 {s1 with heap:=h'}:=Ext.grow (stk:=stk) (tk:=s1.toks) kp
 have eA:=(e1.of1 (own:=gc env)).trans e2
 have okp:HeapOk P (bP stk J) hpL {s1 with heap:=h'}:=sU (tk:=s1.toks) ok1 N kp (W.alive 0 _ st0)
 have evp:EnvOk P A (bP stk J) hpL env loc {s1 with heap:=h'}:=sY (tk:=s1.toks) ev1 N kp
 have rp:R (Fz (bP stk J) hpL) h':=W.rk _ _ _ _ (fzPlus N kp) r0
 have hLI:¬J env.locals:=λz=>hI _ z ev1.stkL
 have hCI:∀n c,env.cells.lookup n=some c→¬J c:=λn c p z=>hI _ z (ev1.stkC n c p)
 have hoI:∀a,J a→¬gc env a:=by
  rintro a q (z|⟨n,z⟩)
  ·exact hLI (z▸q)
  ·exact hCI n a z q
 suffices key:∀R:qs→af→Prop,(∀f s',PostT P (gc env) stk hp s (QS P A stk env Q) f s'→R (.ok f) s')→codeAny P.M A (.forLoop t (.ref I) body [] env) R {s1 with heap:=h'}from key _ λm m z=>z
 intro RR hR
 obtain⟨K,hK⟩:∃K:Nat→af→Prop,K=Ci P A stk env R J hpL {s1 with heap:=h'} (same u hpL) St vs (de u hpL Dt Db Q):=⟨_,rfl⟩
 refine codeAny_forLoop_any K ?_ (vs.length+1) (by rw[hK];exact⟨0,loc,hpL,rfl,aD _,st0,.refl ..,okp,evp,rp,pX u hpL,hl⟩)
 intro n s' hj
 rw[hK]at hj
 obtain⟨i,loc',hp',hn',hi,st,ee,ok',ev',r',sm,lp⟩:=hj
 by_cases hlt:i<vs.length
 ·refine wpAny_mono (W.item A t i s' hp' (bP stk J) (λy=>Mv J s' λh2=>P.VR (bP stk J) hp' h2 vs[i] y∧St (i+1) h2) _ hlt hG (rm.hd hd) st ok' r' sm (λm z=>.inr z) λy h2 tk ry st2 k2=>⟨h2,tk,rfl,⟨ry,st2⟩,k2⟩) (λrr s2 hh=>?_) λm m z=>z
  obtain⟨y,rfl,hw⟩:=hh
  refine wpAny_mono hw (λm s3 hq=>?_) λm m z=>z
  obtain⟨h2,tk,rfl,⟨ry,st2⟩,k2⟩:=hq
  have ky:bB (Fz (bP stk J) hp') (Fz (bP stk J) hp') s'.heap h2:=λa o f g=>⟨f,k2 a o (λz=>f.2 (.inr z)) g⟩
  have e3:=Ad (own:=gc env) (stk:=stk) (hp:=hp') (tk:=tk) (W.alive _ _ st2) (W.nd st) k2
  have ok3:=B9 (tk:=tk) ok' (W.alive _ _ st2) ky k2
  have ev3:=Ca ev' e3 hLI hCI ky k2
  have hdrop:vs.drop i=vs[i]::vs.drop (i+1):=fE hlt
  rw[hdrop,Bh]at lp
  refine wpAny_mono (ht.wide rm hs ev3 ok3 ry (htm _ _ _ _ _ lp)) (λm s4 hq=>?_) (B4 _ _ _)
  obtain⟨hp4,e4,ok4,loc4,ev4,h4,q4⟩:=hq
  subst h4
  refine wpAny_mono (hb A env s4 _ pn loc4 hp4 (bP stk J) rm hs ev4 ok4 q4) (λf s5 hq=>?_) (B4 _ _ _)
  obtain⟨hp5,e5,ok5,w,loc5,ev5,q5,r5⟩:=hq
  have e45:Ext (gc env) (bP stk J) hp4 {s' with heap:=h2,toks:=tk} hp5 s5:=e4.trans e5
  have eT:Ext (bP (gc env) J) (bP stk J) hpL {s1 with heap:=h'} hp5 s5:=(ee.trans e3).trans (e45.wider λb z=>.inl z)
  have st5:St (i+1) s5.heap:=W.frame _ _ _ st2 λb z o g=>e45.same (by
   cases q:hp4 b with
   |none=>rfl
   |some ob=>exact absurd (.inr z) (ok'.apart b (by rw[q];intro z;cases z))) (hoI b z) (.inr (W.nd st2 b z o g)) g
  have r5v:R (Fz (bP stk J) hp5) s5.heap:=W.rk _ _ _ _ (e45.keepy λb z=>.inl (ev1.own b z)) (W.rk _ _ _ _ ky r')
  have fin:Ext (gc env) stk hp s hp5 s5:=(e1.of1 (own:=gc env)).trans (rW e2 N eT)
  have evm:EnvOk P A stk hp5 env loc5 s5:=zA ev5 ev1.stkL ev1.stkC (ev.frs.step fin)
  revert q5
  refine AG.inv r5 (λq5=>?_) (λq5=>?_) (λq5=>?_) (λu y r5 q5=>?_)
  ·exact⟨vs.length+1 - (i+1),hn'.symm▸nL hlt,by rw[hK];exact⟨i+1,loc5,hp5,rfl,hlt,st5,eT,ok5,ev5,r5v,q5.1,q5.2⟩⟩
  ·exact hR _ _ ⟨hp5,fin,uc ok5,.next,loc5,evm,q5,trivial⟩
  ·exact⟨vs.length+1 - (i+1),hn'.symm▸nL hlt,by rw[hK];exact⟨i+1,loc5,hp5,rfl,hlt,st5,eT,ok5,ev5,r5v,q5.1,q5.2⟩⟩
  ·exact hR _ _ ⟨hp5,fin,uc ok5,.ret _,loc5,evm,q5,VR.keep fzMinus r5⟩
 ·have hin:i=vs.length:=kK hi (cz hlt)
  rw[hin]at st lp
  refine wpAny_mono (W.done A s' hp' (bP stk J) (Mv J s' λh2=>∀a,Jo a→∃o,h2.get? a=some o) _ (rm.hd hd) st ok' r' sm (λm z=>.inr z) λh2 tk k2 al=>⟨h2,tk,rfl,al,k2⟩) (λrr s2 hh=>?_) λm m z=>z
  obtain⟨rfl,h2,tk,rfl,al,k2⟩:=hh
  rw[jS,Bg]at lp
  obtain⟨ex,okx,evx⟩:=leaveI (env:=env) (loc:=loc') (tk:=tk) e2 N ee hI ok' al k2
  exact se (hR _ _ ⟨hp',(e1.of1 (own:=gc env)).trans ex,okx,.next,loc',evx ev1.stkL ev1.stkC ev1.frs ev',lp,trivial⟩)
theorem SimS.for{t e:Expr}{body:List Stmt}{pos:Pos}{D:DE}{Dt:DA}{it:List Nat}{Db:DS}(hz:(P.H₀.get? sysModules).isSome=true)(hd:0<d)(h:bz P Fl d sc e D)(ht:SimG P Fl d sc t it Dt)(hb:SimSs P Fl d sc body Db)
 (hfs:∀env x,foldedSetIterable e env x=pure x)(htm:∀v Q X loc hp,Dt v Q X loc hp→Dt v (λloc' hp'=>hp'=hp∧Q loc' hp') X loc hp):SimS P Fl d sc (.For t e body [] pos) (jr D Dt Db):=by
 intro A env s Q X loc hp stk rm hs ev ok hD
 exact SimS.forG (G:=λz=>True) trivial hd h ht hb hfs htm rm hs ev ok (λv hp1 h=>by obtain⟨vs,hv,hl⟩:=h;exact⟨vs,hp1,v,its_of hz hv,hl⟩) hD
end Mine
namespace Mine
variable{P:cH}{Fl:f9}{d:Nat}{sc:Scope}
noncomputable def jY:List DA→List V→(aZ→Hp→Prop)→XS→aZ→Hp→Prop
 | [],[],Q,_,loc,hp=>Q loc hp
 |t::ts,u::us,Q,X,loc,hp=>t u (λloc1 hp1=>jY ts us Q X loc1 hp1) X loc hp
 |_,_,_,_,_,_=>False
noncomputable def ij(ts:List DA):DA:=λv Q X loc hp=>∃us,v= .tup us∧jY ts us Q X loc hp
inductive SimGs(P:cH)(Fl:f9)(d:Nat)(sc:Scope):List Expr→List Nat→List DA→Prop
 |nil:SimGs P Fl d sc [] [] []
 |cons {t:Expr} {ts:List Expr} {i is:List Nat} {D:DA} {Ds:List DA}:SimG P Fl d sc t i D→SimGs P Fl d sc ts is Ds→SimGs P Fl d sc (t::ts) (i++is) (D::Ds)
theorem rU:∀{ts:List DA}{us:List V}{Q:aZ→Hp→Prop}{X:XS}{loc:aZ}{hp:Hp},jY ts us Q X loc hp→(∀t∈ts,∀v Q X loc hp,t v Q X loc hp→∃loc' hp',Q loc' hp')→ts.length=us.length
 | [],[],_,_,_,_,_,_=>rfl
 | [],_::_,_,_,_,_,h,_=>h.elim
 |_::_,[],_,_,_,_,h,_=>h.elim
 |t::ts,u::us,Q,X,loc,hp,h,k=>by
  obtain⟨l,p,z⟩:=k t ai _ _ _ _ _ h
  simp[rU z λt ht=>k t (am _ ht)]
theorem zu{A:ax}{env:Env}{stk:Addr→Prop}(rm:dY d A)(hs:env.scope=sc):∀{ts:List Expr}{is:List Nat}{Ds:List DA},SimGs P Fl d sc ts is Ds→∀{us:List V}{ys:List Value}{s:af}{Q:aZ→Hp→Prop}{X:XS}{loc:aZ}{hp:Hp},EnvOk P A stk hp env loc s→HeapOk P stk hp s→P.VRs stk hp s.heap us ys→jY Ds us Q X loc hp→
 T P (ml P env is) stk A (assignInOrder (ts.map λt=>assign t env) ys) hp s (QG P A stk env Q) (QX P Fl A stk env X):=by
 intro ts is Ds h
 induction h with
 |nil=>
  intro us ys s Q X loc hp ev ok r hD
  cases us with
  |nil=>cases r;exact wpAny_pure ⟨hp,.refl ..,ok,loc,ev,hD⟩
  |cons u us=>exact hD.elim
 |cons h1 _ ih=>
  intro us ys s Q X loc hp ev ok r hD
  cases us with
  |nil=>exact hD.elim
  |cons u us=>
   obtain⟨y,ys,rfl,ry,rys⟩:=r
   refine kr (wpAny_mono (h1 A env s _ X loc hp stk u y rm hs ev ok ry hD) (λx s1 hq=>?_) (by rintro _ _ ⟨hp',e,z,z'⟩;exact⟨hp',e.wider (hU λi hi=>ci _ hi),z,z'⟩))
   obtain⟨hp1,e1,ok1,loc1,ev1,q1⟩:=hq
   refine T.nxt (e1.wider (hU λi hi=>ci _ hi)) (wpAny_mono (ih ev1 ok1 (VRs.keep (e1.keepy λb z=>ev.own b (ownI_E b z)) rys) q1) (by rintro _ _ ⟨hp',e,z,z'⟩;exact⟨hp',e.wider (hU λi hi=>eL _ hi),z,z'⟩) (by rintro _ _ ⟨hp',e,z,z'⟩;exact⟨hp',e.wider (hU λi hi=>eL _ hi),z,z'⟩))
theorem SimG.tup{ts:List Expr}{k:Nat}{pos:Pos}{Ds:List DA}{is:List Nat}(hd:0<d)(h:SimGs P Fl d sc ts is Ds)(he:∀env,assignEach ts env=ts.map λt=>(false,assign t env))(hl:ts.length=Ds.length)(hq:∀t∈Ds,∀v Q X loc hp,t v Q X loc hp→∃loc' hp',Q loc' hp'):
 SimG P Fl d sc (.Tuple ts k pos) is (ij Ds):=by
 rintro A env s Q X loc hp stk v x rm hs ev ok r ⟨us,hv,hD⟩
 subst hv
 obtain⟨a,xs,rfl,f,⟨n,g⟩,rx⟩:=r
 have hlen:=rU hD hq
 have hx:=rx.length
 refine wpAny_assign_Tuple (rm.hd hd) (items:=xs) ⟨_,g,rfl,n,rfl⟩ ?_ ?_ λh' kp=>?_
 ·rw[he env,ak]
  have:xs.size=xs.toList.length:=by simp
  lia
 ·rw[he env]
  rw[List.findIdx?_eq_none_iff]
  intro x hx
  obtain⟨t,_,rfl⟩:=an.mp hx
  rfl
 ·rw[he env,aL]
  have kp':∀b o,s.heap.get? b=some o→h'.get? b=some o:=λb o e=>kp b o (gy (a8 e)) e
  have e1:Ext no1 stk hp s hp {s with heap:=h'}:=Ext.grow (stk:=stk) (tk:=s.toks) kp'
  exact T.nxt e1.of1 (zu rm hs h (ev.step ok e1) (ok.grow (tk:=s.toks) kp') (gG kp' rx) hD)
theorem d3(i:Nat):∀v Q X loc hp,aG i v Q X loc hp→aG i v (λloc' hp'=>hp'=hp∧Q loc' hp') X loc hp:=λz z z z z h=>⟨rfl,h⟩
theorem zw(i:Nat):∀v Q X loc hp,aG i v Q X loc hp→∃loc' hp',Q loc' hp':=λz z z z z h=>⟨_,_,h⟩
theorem ul:∀{is:List Nat}{us:List V}{Q:aZ→Hp→Prop}{X:XS}{loc:aZ}{hp:Hp},jY (is.map aG) us Q X loc hp→jY (is.map aG) us (λloc' hp'=>hp'=hp∧Q loc' hp') X loc hp
 | [],[],_,_,_,_,h=>⟨rfl,h⟩
 | [],_::_,_,_,_,_,h=>h.elim
 |_::_,[],_,_,_,_,h=>h.elim
 |i::is,u::us,Q,X,loc,hp,h=>ul (is:=is) (us:=us) (loc:=upd loc i u) (hp:=hp) h
theorem uk(is:List Nat):∀v Q X loc hp,ij (is.map aG) v Q X loc hp→ij (is.map aG) v (λloc' hp'=>hp'=hp∧Q loc' hp') X loc hp:=(by rintro _ _ _ _ _ ⟨us,e,h⟩;exact⟨us,e,ul h⟩)
theorem fp(is:List Nat):∀t∈is.map aG,∀v Q X loc hp,t v Q X loc hp→∃loc' hp',Q loc' hp':=by
 intro t ht
 obtain⟨i,_,rfl⟩:=an.mp ht
 exact zw i
noncomputable def kT(t:DT)(b o:DS)(Q:Fw→aZ→Hp→Prop):Nat→aZ→Hp→Prop
 |0,_,_=>False
 |n+1,loc,hp=>t (λc hp1=>if c then b (λw loc2 hp2=>match w with
   | .next=>kT t b o Q n loc2 hp2
   | .cont=>kT t b o Q n loc2 hp2
   | .brk=>Q .next loc2 hp2
   | .ret r=>Q (.ret r) loc2 hp2) pn loc hp1 else o Q pn loc hp1) (λk hp'=>False) loc hp
theorem sP{t:DT}{b o:DS}{Q:Fw→aZ→Hp→Prop}{n:Nat}{loc:aZ}{hp:Hp}:kT t b o Q (n+1) loc hp=t (λc hp1=>if c then b (λw loc2 hp2=>match w with
 | .next=>kT t b o Q n loc2 hp2
 | .cont=>kT t b o Q n loc2 hp2
 | .brk=>Q .next loc2 hp2
 | .ret r=>Q (.ret r) loc2 hp2) pn loc hp1 else o Q pn loc hp1) (λk hp'=>False) loc hp:=rfl
noncomputable def oj(t:DT)(b o:DS):DS:=λQ X loc hp=>∃n,kT t b o Q n loc hp
inductive Cg(P:cH)(A:ax)(stk:Addr→Prop)(env:Env)(hp:Hp)(s:af)(L:Nat→aZ→Hp→Prop)(n:Nat)(s':af):Prop
 |intro (loc':aZ) (hp':Hp) (e:Ext (gc env) stk hp s hp' s') (ok:HeapOk P stk hp' s') (ev:EnvOk P A stk hp' env loc' s') (lp:L n loc' hp'):Cg P A stk env hp s L n s'
theorem SimS.while{t:Expr}{body orelse:List Stmt}{pos:Pos}{Dt:DT}{Db Do:DS}(ht:SimT P Fl d sc t Dt)(hb:SimSs P Fl d sc body Db)(ho:SimSs P Fl d sc orelse Do):SimS P Fl d sc (.While t body orelse pos) (oj Dt Db Do):=by
 rintro A env s Q X loc hp stk rm hs ev ok ⟨n,hD⟩
 refine wpAny_While ?_
 suffices key:∀R:qs→af→Prop,(∀f s',PostT P (gc env) stk hp s (QS P A stk env Q) f s'→R (.ok f) s')→codeAny P.M A (.whileLoop t body orelse env) R s from key _ λv v z=>z
 intro R hR
 obtain⟨J,hJ⟩:∃J:Nat→af→Prop,J=Cg P A stk env hp s (kT Dt Db Do Q):=⟨_,rfl⟩
 refine FR rfl J ?_ n (by rw[hJ];exact⟨loc,hp,.refl ..,ok,ev,hD⟩)
 intro n s' hj
 rw[hJ]at hj
 obtain⟨loc',hp',e,ok',ev',lp⟩:=hj
 show wpAny _ _ ((whileTurn t body orelse env).onRaise (λx=>do noteFrame x env;theTreesLotGoes x)) _ _ s'
 rw[show A.under (.whileLoop t body orelse env)=A from Around.under_of_weight rfl]
 refine F3 ?_
 cases n with
 |zero=>exact lp.elim
 |succ n=>
  rw[sP]at lp
  unfold whileTurn
  refine wpAny_bind (wpAny_mono (T2 (X:=pn) ht rm hs ev' ok' lp λc hp1 s1 e1 ev1 ok1 q=>?_) (λv v z=>z) (B4 _ _ _))
  cases c with
  |true=>
   simp only[if_true]at q⊢
   refine wpAny_bind (wpAny_mono (hb A env s1 _ pn loc' hp1 stk rm hs ev1 ok1 q) (λf s2 hq=>?_) (B4 _ _ _))
   obtain⟨hp2,e2,ok2,w,loc2,ev2,q2,r2⟩:=hq
   have eT:=(e.trans e1.of1).trans e2
   revert q2
   refine AG.inv r2 (λq2=>?_) (λq2=>?_) (λq2=>?_) (λu y r2 q2=>?_)
   ·exact wpAny_pure ⟨rfl,n,cR _,by rw[hJ];exact⟨loc2,hp2,eT,ok2,ev2,q2⟩⟩
   ·exact wpAny_pure (hR _ _ ⟨hp2,eT,ok2,.next,loc2,ev2,q2,trivial⟩)
   ·exact wpAny_pure ⟨rfl,n,cR _,by rw[hJ];exact⟨loc2,hp2,eT,ok2,ev2,q2⟩⟩
   ·exact wpAny_pure (hR _ _ ⟨hp2,eT,ok2,.ret _,loc2,ev2,q2,r2⟩)
  |false=>
   simp only[cg,if_false]at q⊢
   refine wpAny_bind (wpAny_mono (ho A env s1 _ pn loc' hp1 stk rm hs ev1 ok1 q) (λf s2 h2=>?_) (B4 _ _ _))
   exact wpAny_pure (hR _ _ (h2.back P (e.trans e1.of1)))
end Mine
namespace Mine
noncomputable def innerSem(elt:Expr)(gens:List cb)(scope:Scope)(pos:Pos)(k:Nat)(acc:Value)(env:Env):Sem Unit:=
 match gens[k]? with
 |some g'=>do
  let x←eval g'.iter env
  standAt g'.iter.pos
  let x←if g'.is_async !=0 then foldedIterable g'.iter x else foldedSetIterable g'.iter env x
  let _←runOwn (.compStart (.ListComp elt gens scope pos) k (←holding [x] (if g'.is_async !=0 then asyncIter x else pyIter x)) acc env) env
 |ac=>do let _←call (.builtin "list.append") [acc,←eval elt env]
theorem compTurn_at(elt:Expr)(gens:List cb)(scope:Scope)(pos:Pos)(k:Nat)(it acc:Value)(env:Env)(t iter:Expr)(ifs:List Expr)(hg:gens[k]?=some ⟨t,iter,ifs,0⟩)
 (hn:gens[k+1]?=ac∨∃t' i' f',gens[k+1]?=some ⟨t',i',f',0⟩):
 compTurn (.ListComp elt gens scope pos) k it acc env=(standAt iter.pos>>= λz=>pyNext it>>= λr=>match r with
  |ac=>pure (.done .next)
  |some v=>letOwnedTupleGo t it v>>= λz=>assign t env v>>= λz=>
   (forIn ifs true λc r=>if r=true then do let ok←isTrue c env (eval c env);pure (fj ok)else pure (fj r))>>= λok=>
    if ok=true then(innerSem elt gens scope pos (k+1) acc env>>= λz=>again (.compLoop (.ListComp elt gens scope pos) k it acc env))else again (.compLoop (.ListComp elt gens scope pos) k it acc env)):=by
 unfold compTurn innerSem
 simp only[hg]
 rcases hn with hn|⟨t',i',f',hn⟩
 ·rw[hn];rfl
 ·simp only[hn,bind_assoc,bne_self_eq_false,cg,if_false,pure_bind]
  refine congrArg _ (funext λz=>congrArg _ (funext λr=>?_))
  cases r<;>rfl
theorem compStart_at(elt:Expr)(gens:List cb)(scope:Scope)(pos:Pos)(k:Nat)(it acc:Value)(env:Env)(t iter:Expr)(ifs:List Expr)(hg:gens[k]?=some ⟨t,iter,ifs,0⟩):
 compStart (.ListComp elt gens scope pos) k it acc env=(ask>>= λst=>if st.params.followText "comprehension-iter-twice" =true then(again (.compLoop (.ListComp elt gens scope pos) k it acc env))else
  (rule "comprehension.iter-twice" >>= λz=>standAt iter.pos>>= λz=>pyIter it>>= λit'=>again (.compLoop (.ListComp elt gens scope pos) k it' acc env))):=by
 have hc:clausesOf (.ListComp elt gens scope pos)=gens:=rfl
 unfold compStart
 simp only[hc,hg]
 rfl
variable{A:ax}{P:cH}{Fl:f9}{d:Nat}{sc:Scope}
theorem nD_seq{c:Value}{xs:Array Value}{n:Nat}:¬ng {cls:=c,data:=.seq xs n}:=by rintro⟨es,m,e⟩;cases e
theorem stk_none{stk:Addr→Prop}{hp:Hp}{s:af}(ok:HeapOk P stk hp s){a:Addr}(z:stk a):hp a=ac:=by
 cases q:hp a with
 |none=>rfl
 |some o=>exact absurd z (ok.apart a (by rw[q];intro z;cases z))
theorem okAt{stk:Addr→Prop}{hp:Hp}{s:af}(ok:HeapOk P stk hp s){c:Addr}{h':Heap}{tk:Nat}(hsc:stk c)(hs:bv c s.heap h')(ht:∃o,h'.get? c=some o)(hnd:∀o,s.heap.get? c=some o→¬ng o):
 HeapOk P stk hp {s with heap:=h',toks:=tk}∧bB (Fz stk hp) (Fz stk hp) s.heap h'∧∀own:Addr→Prop,own c→Ext own stk hp s hp {s with heap:=h',toks:=tk}:=by
 have ky:bB (Fz stk hp) (Fz stk hp) s.heap h':=by
  rintro a o f g
  exact⟨f,(hs.2 a (λz=>f.2 (z▸hsc))).trans g⟩
 refine⟨⟨λa o e=>(ok.obj a o e).keep ky λo g=>(hs.2 a ?_).trans g,ok.apart,λb o e=>(hs.2 b ?_).trans (ok.base b o e),ok.new,ok.stkn,λa z=>?_,ok.gens⟩,ky,λown hc=>.exact (λb o e n g=>(hs.2 b (λz=>n (z▸hc))).trans g) (λb o g=>?_) (λb o st g d=>⟨o,(hs.2 b (by rintro rfl;exact hnd o g d)).trans g,d⟩) (λy a b=>absurd a b) rfl rfl⟩
 ·rintro rfl;rw[stk_none ok hsc]at e;cases e
 ·rintro rfl;rw[ok.stkn _ hsc]at e;cases e
 ·by_cases q:a=c
  ·subst q;exact ht
  ·obtain⟨o,e⟩:=ok.stkl a z;exact⟨o,(hs.2 a q).trans e⟩
 ·by_cases q:b=c
  ·subst q;exact ht
  ·exact⟨o,(hs.2 b q).trans g⟩
theorem evAt{stk:Addr→Prop}{hp:Hp}{env:Env}{loc:aZ}{s:af}(ev:EnvOk P A stk hp env loc s){c:Addr}{h':Heap}{tk:Nat}(hs:bv c s.heap h')(ky:bB (Fz stk hp) (Fz stk hp) s.heap h')(hL:c≠env.locals)(hC:∀n,env.cells.lookup n≠some c)(hnd:∀o,s.heap.get? c=some o→¬ng o):EnvOk P A stk hp env loc {s with heap:=h',toks:=tk}:=by
 refine⟨ev.kind,ev.glob,ev.blt,?_,λj u g kk=>?_,ev.stkL,ev.stkC,λn kk=>?_,ev.apart,ev.apartL,ev.frs.up (λy z=>z) λb o st g d=>⟨o,(hs.2 b (by rintro rfl;exact hnd o g d)).trans g,d⟩,ev.top⟩
 ·obtain⟨m,n,hm⟩:=ev.ns
  exact⟨m,n.sameBut hs (aI hL),λj u a b=>(by obtain⟨z,p,q⟩:=hm j u a b;exact⟨z,p,q.keep ky⟩)⟩
 ·refine(ev.cell j u g kk).elim λc2 r1_=>r1_.elim λz r2_=>r2_.elim λp r3_=>r3_.elim λg q=>?_
  exact⟨c2,z,p,g.sameBut hs (λz=>hC _ (z▸p)),q.keep ky⟩
 ·refine(ev.cells n kk).elim λc2 r1_=>r1_.elim λz r2_=>r2_.elim λp g=>?_
  exact⟨c2,z,p,g.sameBut hs (λz=>hC _ (z▸p))⟩
theorem EnvOk.weaken{stk:Addr→Prop}{hp:Hp}{env:Env}{loc loc':aZ}{s:af}(ev:EnvOk P A stk hp env loc' s)(h:∀i v,loc i=some v→loc' i=some v):EnvOk P A stk hp env loc s:=
 ⟨ev.kind,ev.glob,ev.blt,(by obtain⟨m,n,hm⟩:=ev.ns;exact⟨m,n,λi v a b=>hm i v (h i v a) b⟩),λi v a b=>ev.cell i v (h i v a) b,ev.stkL,ev.stkC,ev.cells,ev.apart,ev.apartL,ev.frs,ev.top⟩
noncomputable abbrev CD:=(List V→Hp→Prop)→List V→aZ→Hp→Prop
noncomputable def noXA:XA:=λz z=>False
noncomputable def eM(e:DE):CD:=λK acc loc hp=>acc.length≤lim∧e (λv hp1=>K (acc++[v]) hp1) noXA loc hp
noncomputable def mj(v:V)(hp0:Hp)(t:DA)(f:DT)(inner:CD)(K:List V→Hp→Prop):List V→List V→aZ→Hp→Prop
 | [],acc,_,hp=>K acc hp
 |u::us,acc,loc,hp=>t u (λloc1 hp1=>f (λb hp2=>if b then inner (λacc' hp3=>same v hp0 hp3∧mj v hp0 t f inner K us acc' loc hp3) acc loc1 hp2 else same v hp0 hp2∧mj v hp0 t f inner K us acc loc hp2) noXA loc1 hp1) pn loc hp
theorem cLpN{v:V}{hp0:Hp}{t:DA}{f:DT}{inner:CD}{K:List V→Hp→Prop}{acc:List V}{loc:aZ}{hp:Hp}:mj v hp0 t f inner K [] acc loc hp=K acc hp:=rfl
theorem AW{v:V}{hp0:Hp}{t:DA}{f:DT}{inner:CD}{K:List V→Hp→Prop}{acc:List V}{loc:aZ}{hp:Hp}{u:V}{us:List V}:mj v hp0 t f inner K (u::us) acc loc hp=t u (λloc1 hp1=>f (λb hp2=>if b then inner (λacc' hp3=>same v hp0 hp3∧mj v hp0 t f inner K us acc' loc hp3) acc loc1 hp2 else same v hp0 hp2∧mj v hp0 t f inner K us acc loc hp2) noXA loc1 hp1) pn loc hp:=rfl
noncomputable def yN(src:DE)(t:DA)(f:DT)(inner:CD):CD:=λK acc loc hp=>src (λv hp1=>∃vs,dp hp1 v=some vs∧mj v hp1 t f inner K vs acc loc hp1) noXA loc hp
structure CSt(P:cH)(A:ax)(stk:Addr→Prop)(hp:Hp)(env:Env)(loc:aZ)(s:af)(D:Addr)(acc:List V):Prop where
 ev:EnvOk P A stk hp env loc s
 ok:HeapOk P stk hp s
 stkD:stk D
 neL:D≠env.locals
 neC:∀n,env.cells.lookup n≠some D
 lst:∃ys,s.heap.PlainList D ys∧P.VRs stk hp s.heap acc ys.toList
noncomputable def mm(P:cH)(env:Env)(ids:List Nat)(D:Addr):Addr→Prop:=λb=>ml P env ids b∨b=D
theorem CSt.own{stk:Addr→Prop}{hp:Hp}{env:Env}{loc:aZ}{s:af}{D:Addr}{acc:List V}(c:CSt P A stk hp env loc s D acc){ids:List Nat}:∀b,mm P env ids D b→stk b:=by
 rintro b (z|rfl)
 ·exact c.ev.own b (ownI_E b z)
 ·exact c.stkD
theorem CSt.step{stk:Addr→Prop}{hp hp':Hp}{env:Env}{loc:aZ}{s s':af}{D:Addr}{acc:List V}(c:CSt P A stk hp env loc s D acc)(e:Ext no1 stk hp s hp' s')(ok':HeapOk P stk hp' s'):CSt P A stk hp' env loc s' D acc:=by
 refine⟨c.ev.step c.ok e,ok',c.stkD,c.neL,c.neC,?_⟩
 refine c.lst.elim λys r1_=>r1_.elim λe2_ r=>e2_.elim λn g=>?_
 exact⟨ys,⟨n,e.same (stk_none c.ok c.stkD) (λz=>z) (.inr nD_seq) g⟩,jg e r⟩
theorem CSt.weaken{stk:Addr→Prop}{hp:Hp}{env:Env}{loc loc':aZ}{s:af}{D:Addr}{acc:List V}(c:CSt P A stk hp env loc' s D acc)(h:∀i v,loc i=some v→loc' i=some v):CSt P A stk hp env loc s D acc:=⟨c.ev.weaken h,c.ok,c.stkD,c.neL,c.neC,c.lst⟩
noncomputable def SimI(P:cH)(Fl:f9)(d:Nat)(sc:Scope)(elt:Expr)(gens:List cb)(scope:Scope)(pos:Pos)(k:Nat)(ids:List Nat)(Dk:CD):Prop:=
 ∀(A:ax)(env:Env)(s:af)(K:List V→Hp→Prop)(acc:List V)(loc:aZ)(hp:Hp)(stk:Addr→Prop)(D:Addr),
  dY d A→env.scope=sc→CSt P A stk hp env loc s D acc→(∀i∈ids,loc i=ac)→Dk K acc loc hp→
  wpAny P.M A (innerSem elt gens scope pos k (.ref D) env) (λz s'=>∃hp' acc',Ext (mm P env ids D) stk hp s hp' s'∧CSt P A stk hp' env loc s' D acc'∧K acc' hp') (λz z=>False) s
theorem mJ{own stk:Addr→Prop}{hp:Hp}{s:af}{E:Value→af→Prop}:∀e s'',PostT P own stk hp s (lX Fl noXA) e s''→E e s'':=by
 rintro e s'' ⟨_,_,_,k,hx,_⟩
 exact hx.elim
theorem SimI.elt{elt:Expr}{gens:List cb}{scope:Scope}{pos:Pos}{k:Nat}{De:DE}(hg:gens[k]?=ac)(h:bz P Fl d sc elt De):SimI P Fl d sc elt gens scope pos k [] (eM De):=by
 intro A env s K acc loc hp stk D rm hs c hf i1_;refine i1_.elim λhl hD=>?_
 unfold innerSem
 rw[hg]
 refine wpAny_bind (wpAny_mono (h A env s _ noXA loc hp stk rm hs c.ev c.ok hD) (λx s1 hq=>?_) mJ)
 obtain⟨hp1,e1,ok1,v,q,r⟩:=hq
 have c1:=c.step e1 ok1
 refine c1.lst.elim λys r1_=>r1_.elim λpl ry=>?_
 have hz:ys.size≤sizeLine:=by
  have h1:=ry.length
  have h2:ys.size=ys.toList.length:=rfl
  have:=dZ
  omega
 refine wpAny_bind (wpAny_list_append_plain (hsz:=hz) pl λh' pl' sb=>wpAny_pure ?_)
 obtain⟨ok2,ky,ex⟩:=okAt (tk:=s1.toks) ok1 c.stkD sb (by obtain⟨n,g⟩:=pl';exact⟨_,g⟩) (λo g=>by obtain⟨n,g'⟩:=pl;rw[g]at g';cases g';exact nD_seq)
 refine⟨hp1,acc++[v],e1.of1.trans (ex _ (.inr rfl)),⟨evAt c1.ev sb ky c.neL c.neC (λo g=>by obtain⟨n,g'⟩:=pl;rw[g]at g';cases g';exact nD_seq),ok2,c.stkD,c.neL,c.neC,_,pl',?_⟩,q⟩
 rw[we]
 exact(ry.keep ky).append (vCons (r.keep ky) vNil)
noncomputable def fNone:DT:=λQ z z hp=>Q true hp
noncomputable def eg(P:cH)(Fl:f9)(d:Nat)(sc:Scope)(ifs:List Expr)(Df:DT):Prop:=
 ∀(A:ax)(env:Env)(s:af)(Q:Bool→Hp→Prop)(loc:aZ)(hp:Hp)(stk:Addr→Prop),
  dY d A→env.scope=sc→EnvOk P A stk hp env loc s→HeapOk P stk hp s→Df Q noXA loc hp→
  wpAny P.M A (forIn ifs true λc r=>if r=true then do let ok←isTrue c env (eval c env);pure (fj ok)else pure (fj r)) (PostT P no1 stk hp s (λb hp' s'=>Q b hp')) (λz z=>False) s
theorem eg.nil:eg P Fl d sc [] fNone:=λA env s Q loc hp stk rm hs ev ok hD=>wpAny_tests_nil ⟨hp,.refl ..,ok,hD⟩
theorem eg.one{c:Expr}{D:DT}(h:SimT P Fl d sc c D):eg P Fl d sc [c] D:=λA env s Q loc hp stk rm hs ev ok hD=>wpAny_tests_one (wpAny_mono (h A env s Q noXA loc hp stk rm hs ev ok hD) (λy y z=>z) mJ)
noncomputable def Tgt(ids:List Nat)(Dt:DA):Prop:=∀v Q X loc hp,(∀i∈ids,loc i=ac)→Dt v Q X loc hp→Dt v (λloc' hp'=>hp'=hp∧(∀i v,loc i=some v→loc' i=some v)∧(∀i,i∉ids→loc' i=loc i)∧Q loc' hp') X loc hp
theorem Tgt.var(i:Nat):Tgt [i] (aG i):=λv Q X loc hp hn h=>⟨rfl,λj u e=>by
 have:j≠i:=by rintro rfl;rw[hn j (ai)]at e;cases e
 rw[upd_ne this];exact e,λj hj=>upd_ne (by simpa using hj),h⟩
theorem rS:∀{is:List Nat}{us:List V}{Q:aZ→Hp→Prop}{X:XS}{loc:aZ}{hp:Hp},is.Nodup→(∀i∈is,loc i=ac)→jY (is.map aG) us Q X loc hp→jY (is.map aG) us (λloc' hp'=>hp'=hp∧(∀i v,loc i=some v→loc' i=some v)∧(∀i,i∉is→loc' i=loc i)∧Q loc' hp') X loc hp
 | [],[],_,_,_,_,_,_,h=>⟨rfl,λy y e=>e,λy y=>rfl,h⟩
 | [],_::_,_,_,_,_,_,_,h=>h.elim
 |_::_,[],_,_,_,_,_,_,h=>h.elim
 |i::is,u::us,Q,X,loc,hp,hnd,hn,h=>by
  rw[aC]at hnd
  have hn':∀j∈is,upd loc i u j=ac:=λj hj=>by
   rw[upd_ne (by rintro rfl;exact hnd.1 hj)];exact hn j (am _ hj)
  have z:=rS (is:=is) (us:=us) (loc:=upd loc i u) (hp:=hp) hnd.2 hn' h
  show jY (is.map aG) us _ X (upd loc i u) hp
  have mono:∀{is:List Nat}{us:List V}{Q Q':aZ→Hp→Prop}{loc:aZ}{hp:Hp},(∀l p,Q l p→Q' l p)→jY (is.map aG) us Q X loc hp→jY (is.map aG) us Q' X loc hp:=by
   intro is
   induction is with
   |nil=>intro us Q Q' loc hp k h;cases us with
    |nil=>exact k _ _ h
    |cons=>exact h.elim
   |cons j is ih=>intro us Q Q' loc hp k h;cases us with
    |nil=>exact h.elim
    |cons u us=>exact ih k h
  refine mono (λl p ⟨a,b,c,q⟩=>⟨a,λj w e=>?_,λj hj=>?_,q⟩) z
  ·have:j≠i:=by rintro rfl;rw[hn j (ai)]at e;cases e
   exact b j w (by rw[upd_ne this];exact e)
  ·simp only[ah,not_or]at hj
   rw[c j hj.2,upd_ne hj.1]
theorem Tgt.tup{is:List Nat}(hnd:is.Nodup):Tgt is (ij (is.map aG)):=(by rintro v Q X loc hp hn ⟨us,e,h⟩;exact⟨us,e,rS hnd hn h⟩)
inductive Cj(P:cH)(A:ax)(stk:Addr→Prop)(env:Env)(loc:aZ)(own:Addr→Prop)(D:Addr)(R:(Addr→Prop)→Heap→Prop)(J:Addr→Prop)(hp1:Hp)(s1:af)(src:Hp→Prop)(St:Nat→Heap→Prop)(vs:List V)(L:List V→List V→Hp→Prop)(n:Nat)(s':af):Prop
 |intro (i:Nat) (acc':List V) (hp':Hp) (hn:n=vs.length+1 - i) (hi:i≤vs.length) (st:St i s'.heap) (ee:Ext (bP own J) (bP stk J) hp1 s1 hp' s') (c:CSt P A (bP stk J) hp' env loc s' D acc') (r:R (Fz (bP stk J) hp') s'.heap) (sm:src hp') (lp:L (vs.drop i) acc' hp'):Cj P A stk env loc own D R J hp1 s1 src St vs L n s'
theorem FD{P:cH}{A:ax}{stk:Addr→Prop}{env:Env}{loc:aZ}{D:Addr}{J:Addr→Prop}{hp:Hp}{s':af}{h2:Heap}{tk:Nat}{acc:List V}{own:Addr→Prop}(c':CSt P A (bP stk J) hp env loc s' D acc)(e3:Ext own (bP stk J) hp s' hp {s' with heap:=h2,toks:=tk})(hLI:¬J env.locals)(hCI:∀n c,env.cells.lookup n=some c→¬J c)(hDI:¬J D)(hal:∀a,J a→∃o,h2.get? a=some o)
 (ky:bB (Fz (bP stk J) hp) (Fz (bP stk J) hp) s'.heap h2)(k2:∀b o,¬J b→s'.heap.get? b=some o→h2.get? b=some o):CSt P A (bP stk J) hp env loc {s' with heap:=h2,toks:=tk} D acc:=by
 refine⟨Ca c'.ev e3 hLI hCI ky k2,B9 c'.ok hal ky k2,c'.stkD,c'.neL,c'.neC,?_⟩
 refine c'.lst.elim λys r1_=>r1_.elim λe2_ r=>e2_.elim λn g=>?_
 exact⟨ys,⟨n,k2 _ _ hDI g⟩,r.keep ky⟩
theorem xc(hd:0<d){elt:Expr}{gens:List cb}{scope:Scope}{pos:Pos}{k:Nat}{t iter:Expr}{ifs:List Expr}{idt ids:List Nat}{Dt:DA}{Df:DT}{inner:CD}(hg:gens[k]?=some ⟨t,iter,ifs,0⟩)(hn1:gens[k+1]?=ac∨∃t' i' f',gens[k+1]?=some ⟨t',i',f',0⟩)
 (ht:SimG P Fl d sc t idt Dt)(htg:Tgt idt Dt)(hf:eg P Fl d sc ifs Df)(hi:SimI P Fl d sc elt gens scope pos (k+1) ids inner)(hdis:∀i∈ids,i∉idt)
 {A:ax}{env:Env}{s0:af}{K:List V→Hp→Prop}{acc:List V}{loc:aZ}{hp1:Hp}{stk:Addr→Prop}{D:Addr}(rm:dY d A)(hs:env.scope=sc){v:V}{G:Expr→Prop}(hG:G t){R:(Addr→Prop)→Heap→Prop}{I:Addr}{J Jo:Addr→Prop}{hp0:Hp}{vs:List V}{St:Nat→Heap→Prop}
 (hfr:∀i∈idt++ids,loc i=ac){s1:af}(hI:∀a,J a→¬stk a)(e2:Ext (mm P env (idt++ids) D) stk hp0 s0 hp0 s1)(N:Wen hp0 hp1 s0.heap J Jo)(cp:CSt P A (bP stk J) hp1 env loc s1 D acc)(hL:stk env.locals)(hC:∀n c,env.cells.lookup n=some c→stk c)(hF:Fs A stk s0)(hD:stk D)(W:BE P G R I J Jo vs (same v hp1) St)(st0:St 0 s1.heap)(r0:R (Fz (bP stk J) hp1) s1.heap)(lp0:mj v hp1 Dt Df inner K vs acc loc hp1):
 codeAny P.M A (.compLoop (.ListComp elt gens scope pos) k (.ref I) (.ref D) env) (λr s'=>match r with| .ok _=>∃hp' acc',Ext (mm P env (idt++ids) D) stk hp0 s0 hp' s'∧CSt P A stk hp' env loc s' D acc'∧K acc' hp'| .error _=>False) s1:=by
 have hLI:¬J env.locals:=λz=>hI _ z hL
 have hCI:∀n c,env.cells.lookup n=some c→¬J c:=λn c p z=>hI c z (hC n c p)
 have hDI:¬J D:=λz=>hI _ z hD
 have hoI:∀a,J a→∀l,¬ml P env l a:=λa q l z=>by
  rcases ownI_E a z with z|⟨n,z⟩
  ·exact hLI (z▸q)
  ·exact hCI n a z q
 suffices key:∀RR:qs→af→Prop,(∀r s' hp' acc',Ext (mm P env (idt++ids) D) stk hp0 s0 hp' s'→CSt P A stk hp' env loc s' D acc'→K acc' hp'→RR (.ok r) s')→codeAny P.M A (.compLoop (.ListComp elt gens scope pos) k (.ref I) (.ref D) env) RR s1 from key _ λw w hp' acc' a b c=>⟨hp',acc',a,b,c⟩
 intro RR hR
 obtain⟨Z,hZ⟩:∃Z:Nat→af→Prop,Z=Cj P A stk env loc (mm P env (idt++ids) D) D R J hp1 s1 (same v hp1) St vs (λus acc hp=>mj v hp1 Dt Df inner K us acc loc hp):=⟨_,rfl⟩
 refine FR rfl Z ?_ (vs.length+1) (by rw[hZ];exact⟨0,acc,hp1,rfl,aD _,st0,.refl ..,cp,r0,pX v hp1,lp0⟩)
 intro n s' hj
 rw[hZ]at hj
 obtain⟨i,acc',hp',hn',hi',st,ee,c',r',sm,lp⟩:=hj
 show wpAny _ A ((compTurn (.ListComp elt gens scope pos) k (.ref I) (.ref D) env).onRaise (λx=>do noteFrame x env;theTreesLotGoes x)) _ _ s'
 refine F3 ?_
 rw[compTurn_at elt gens scope pos k _ _ env t iter ifs hg hn1]
 refine wpAny_bind (wpAny_standAt (wpAny_bind ?_))
 by_cases hlt:i<vs.length
 ·refine wpAny_mono (W.item A t i s' hp' (bP stk J) (λy=>Mv J s' λh2=>P.VR (bP stk J) hp' h2 vs[i] y∧St (i+1) h2) _ hlt hG (rm.hd hd) st c'.ok r' sm (λw z=>.inr z) λy h2 tk ry st2 k2=>⟨h2,tk,rfl,⟨ry,st2⟩,k2⟩) (λrr s2 hh=>?_) λw w z=>z
  obtain⟨y,rfl,hw⟩:=hh
  refine wpAny_bind (wpAny_mono hw (λw s3 hq=>?_) λw w z=>z)
  obtain⟨h2,tk,rfl,⟨ry,st2⟩,k2⟩:=hq
  have ky:bB (Fz (bP stk J) hp') (Fz (bP stk J) hp') s'.heap h2:=λa o f g=>⟨f,k2 a o (λz=>f.2 (.inr z)) g⟩
  have e3:=Ad (own:=mm P env (idt++ids) D) (stk:=stk) (hp:=hp') (tk:=tk) (W.alive _ _ st2) (W.nd st) k2
  have c3:=FD c' e3 hLI hCI hDI (W.alive _ _ st2) ky k2
  have r3:R (Fz (bP stk J) hp') h2:=W.rk _ _ _ _ ky r'
  have hdrop:vs.drop i=vs[i]::vs.drop (i+1):=fE hlt
  rw[hdrop,AW]at lp
  refine wpAny_bind (wpAny_mono (ht A env _ _ pn loc hp' (bP stk J) vs[i] y rm hs c3.ev c3.ok ry (htg _ _ _ _ _ (λi hi=>hfr i (ci _ hi)) lp)) (λw s4 hq=>?_) ?_)
  ·obtain⟨hp4,e4,ok4,loc4,ev4,h4,hle,hoth,q4⟩:=hq
   subst h4
   have e4c:Ext (bP (mm P env (idt++ids) D) J) (bP stk J) hp4 {s' with heap:=h2,toks:=tk} hp4 s4:=e4.wider λb z=>.inl (.inl (hU (λi hi=>ci _ hi) b z))
   have ky4:bB (Fz (bP stk J) hp4) (Fz (bP stk J) hp4) h2 s4.heap:=e4.keepy λb z=>c3.ev.own b (ownI_E b z)
   have noown:∀b,¬ml P env idt b→hp4 b=ac→∀o,¬ng o→h2.get? b=some o→s4.heap.get? b=some o:=λb h1 h3 o nd g=>e4.same h3 h1 (.inr nd) g
   have hDno:¬ml P env idt D:=by
    rintro⟨j,_,⟨_,z⟩|⟨_,z⟩⟩
    ·exact cp.neL z
    ·exact cp.neC _ z
   have c4:CSt P A (bP stk J) hp4 env loc4 s4 D acc':=⟨ev4,ok4,c3.stkD,c3.neL,c3.neC,by
    refine c3.lst.elim λys r1_=>r1_.elim λe2_ r=>e2_.elim λn g=>?_
    exact⟨ys,⟨n,noown D hDno (stk_none c3.ok c3.stkD) _ nD_seq g⟩,r.keep ky4⟩⟩
   have st4:St (i+1) s4.heap:=W.frame _ _ _ st2 λb z o g=>noown b (hoI b z _) (stk_none c3.ok (.inr z)) o (W.nd st2 b z o g) g
   have r4:R (Fz (bP stk J) hp4) s4.heap:=W.rk _ _ _ _ ky4 r3
   refine wpAny_bind (wpAny_mono (hf A env s4 _ loc4 hp4 (bP stk J) rm hs ev4 ok4 q4) (λb s5 hq=>?_) λw w z=>z.elim)
   obtain⟨hp5,e5,ok5,q5⟩:=hq
   have c5:=c4.step e5 ok5
   have st5:St (i+1) s5.heap:=W.frame _ _ _ st4 λb z o g=>e5.same (stk_none c4.ok (.inr z)) (λz=>z) (.inr (W.nd st4 b z o g)) g
   have r5:R (Fz (bP stk J) hp5) s5.heap:=W.rk _ _ _ _ (e5.keepy λw z=>z.elim) r4
   have eT:=((ee.trans e3).trans e4c).trans (e5.of1 (own:=bP (mm P env (idt++ids) D) J))
   cases b with
   |false=>
    simp only[cg,if_false]at q5⊢
    exact wpAny_pure ⟨rfl,vs.length+1 - (i+1),hn'.symm▸nL hlt,by rw[hZ];exact⟨i+1,acc',hp5,rfl,hlt,st5,eT,c5.weaken hle,r5,q5.1,q5.2⟩⟩
   |true=>
    simp only[if_true]at q5⊢
    refine wpAny_bind (wpAny_mono (hi A env s5 _ acc' loc4 hp5 (bP stk J) D rm hs c5 (λj hj=>by rw[hoth j (hdis j hj)];exact hfr j (eL _ hj)) q5) (λw s6 hq=>?_) λw w z=>z.elim)
    refine hq.elim λhp6 r1_=>r1_.elim λacc6 r2_=>r2_.elim λe6 r3_=>r3_.elim λc6 q6=>?_
    have e6':Ext (bP (mm P env (idt++ids) D) J) (bP stk J) hp5 s5 hp6 s6:=e6.wider λb z=>.inl (z.elim (λz=>.inl (hU (λi hi=>eL _ hi) b z)) .inr)
    have hIno:∀a,J a→¬mm P env ids D a:=by
     rintro a q (z|z)
     ·exact hoI a q _ z
     ·exact hDI (z▸q)
    have st6:St (i+1) s6.heap:=W.frame _ _ _ st5 λb z o g=>e6.same (stk_none c5.ok (.inr z)) (hIno b z) (.inr (W.nd st5 b z o g)) g
    have r6:R (Fz (bP stk J) hp6) s6.heap:=W.rk _ _ _ _ (e6.keepy c5.own) r5
    exact wpAny_pure ⟨rfl,vs.length+1 - (i+1),hn'.symm▸nL hlt,by rw[hZ];exact⟨i+1,acc6,hp6,rfl,hlt,st6,eT.trans e6',c6.weaken hle,r6,q6.1,q6.2⟩⟩
  ·rintro e s'' ⟨_,_,_,k,l,_,hx,_⟩
   exact hx.elim
 ·have hin:i=vs.length:=kK hi' (cz hlt)
  rw[hin]at st lp
  refine wpAny_mono (W.done A s' hp' (bP stk J) (Mv J s' λh2=>∀a,Jo a→∃o,h2.get? a=some o) _ (rm.hd hd) st c'.ok r' sm (λw z=>.inr z) λh2 tk k2 al=>⟨h2,tk,rfl,al,k2⟩) (λrr s2 hh=>?_) λw w z=>z
  obtain⟨rfl,h2,tk,rfl,al,k2⟩:=hh
  rw[jS,cLpN]at lp
  obtain⟨ex,okx,evx⟩:=leaveI (env:=env) (loc:=loc) (tk:=tk) e2 N ee hI c'.ok al k2
  refine wpAny_pure (hR _ _ hp' acc' ex ⟨evx hL hC hF c'.ev,okx,hD,cp.neL,cp.neC,?_⟩ lp)
  refine c'.lst.elim λys r1_=>r1_.elim λe2_ r=>e2_.elim λn g=>?_
  exact⟨ys,⟨n,k2 _ _ hDI g⟩,r.keep λa o f g=>⟨⟨f.1,λz=>f.2 (.inl z)⟩,k2 a o (λq=>f.2 (.inr q)) g⟩⟩
end Mine
namespace Mine
variable{P:cH}{Fl:f9}{d:Nat}{sc:Scope}
theorem ua{elt:Expr}{gens:List cb}{scope:Scope}{pos:Pos}{k:Nat}{t iter:Expr}{ifs:List Expr}(hg:gens[k]?=some ⟨t,iter,ifs,0⟩){A:ax}{env:Env}{s:af}{I:Addr}{acc:Value}{G:af→Prop}
 (hself:∀(Q:Value→af→Prop) E,Q (.ref I) s→wpAny P.M A (pyIter (.ref I)) Q E s)
 (h:codeAny P.M A (.compLoop (.ListComp elt gens scope pos) k (.ref I) acc env) (λr s'=>match r with| .ok _=>G s'| .error _=>False) s):
 codeAny P.M A (.compStart (.ListComp elt gens scope pos) k (.ref I) acc env) (λr s'=>match r with| .ok _=>G s'| .error _=>False) s:=by
 refine C3 ?_
 show wpAny _ _ ((compStart (.ListComp elt gens scope pos) k (.ref I) acc env).onRaise (λx=>do noteFrame x env;standAt theWindowsPlace)) _ _ s
 refine wpAny_notedAt ?_
 rw[compStart_at elt gens scope pos k _ _ env t iter ifs hg]
 refine wpAny_bind (CH (wpAny_ite ?_))
 split
 ·exact wpAny_pure (Fk rfl h)
 ·exact wpAny_bind (wpAny_rule (wpAny_bind (wpAny_standAt (wpAny_bind (hself _ _ (wpAny_pure (Fk rfl h)))))))
theorem SimI.genG(hd:0<d){elt:Expr}{gens:List cb}{scope:Scope}{pos:Pos}{k:Nat}{t iter:Expr}{ifs:List Expr}{idt ids:List Nat}{De:DE}{Dt:DA}{Df:DT}{inner:CD}{G:Expr→Prop}(hG:G t)(hg:gens[k]?=some ⟨t,iter,ifs,0⟩)(hn1:gens[k+1]?=ac∨∃t' i' f',gens[k+1]?=some ⟨t',i',f',0⟩)
 (he:bz P Fl d sc iter De)(ht:SimG P Fl d sc t idt Dt)(htg:Tgt idt Dt)(hf:eg P Fl d sc ifs Df)(hi:SimI P Fl d sc elt gens scope pos (k+1) ids inner)(hdis:∀i∈ids,i∉idt)(hfs:∀env x,foldedSetIterable iter env x=pure x)
 {Qe:(List V→Hp→Prop)→List V→aZ→V→Hp→Prop}(hQe:∀K acc loc v hp1,Qe K acc loc v hp1→∃vs hpL u,Its P v vs hp1 hpL G (same u hpL)∧mj u hpL Dt Df inner K vs acc loc hpL):
 SimI P Fl d sc elt gens scope pos k (idt++ids) (λK acc loc hp=>De (Qe K acc loc) noXA loc hp):=by
 intro A env s K acc loc hp stk D rm hs c hfr hD
 unfold innerSem
 rw[hg]
 refine wpAny_bind (wpAny_mono (he A env s _ noXA loc hp stk rm hs c.ev c.ok hD) (λx s1 hq=>?_) mJ)
 obtain⟨hp1,e1,ok1,v,hq,r⟩:=hq
 obtain⟨vs,hpL,u,hv,lp⟩:=hQe _ _ _ _ _ hq
 refine wpAny_bind (wpAny_standAt ?_)
 show wpAny P.M A (foldedSetIterable iter env x>>= λx=>holding [x] (pyIter x)>>= λit=>runOwn (.compStart (.ListComp elt gens scope pos) k it (.ref D) env) env>>= λy=>pure ()) _ _ s1
 rw[hfs env x]
 refine wpAny_bind (wpAny_pure (wpAny_bind (wpAny_holding ?_)))
 refine hv A s1 stk x _ _ (rm.hd hd) ok1 r λI J Jo R St h' N kp W st0 r0=>?_
 have c1:=c.step e1 ok1
 have hI:∀a,J a→¬stk a:=λa z=>N.notStk ok1 z
 have cp:CSt P A (bP stk J) hpL env loc {s1 with heap:=h'} D acc:=⟨sY (tk:=s1.toks) c1.ev N kp,sU (tk:=s1.toks) ok1 N kp (W.alive 0 _ st0),.inl c1.stkD,c1.neL,c1.neC,(by obtain⟨ys,⟨n,g⟩,r⟩:=c1.lst;exact⟨ys,⟨n,kp _ _ g⟩,r.keep (fzPlus N kp)⟩)⟩
 refine wpAny_bind (wpAny_runOwn (k9 (ua (P:=P) hg (λQ E q=>W.self A 0 _ Q E st0 q) (xc hd hg hn1 ht htg hf hi hdis rm hs hG hfr hI (Ext.grow (stk:=stk) (tk:=s1.toks) kp) N cp c1.ev.stkL c1.ev.stkC c1.ev.frs c1.stkD W st0 (W.rk _ _ _ _ (fzPlus N kp) r0) lp)) λrr s' hr=>?_))
 cases rr with
 |ok f=>
  obtain⟨hp',acc',e,cc,q⟩:=hr
  exact wpAny_pure ⟨hp',acc',e1.of1.trans e,cc,q⟩
 |error e=>exact hr.elim
theorem SimI.gen(hz:(P.H₀.get? sysModules).isSome=true)(hd:0<d){elt:Expr}{gens:List cb}{scope:Scope}{pos:Pos}{k:Nat}{t iter:Expr}{ifs:List Expr}{idt ids:List Nat}{De:DE}{Dt:DA}{Df:DT}{inner:CD}(hg:gens[k]?=some ⟨t,iter,ifs,0⟩)(hn1:gens[k+1]?=ac∨∃t' i' f',gens[k+1]?=some ⟨t',i',f',0⟩)
 (he:bz P Fl d sc iter De)(ht:SimG P Fl d sc t idt Dt)(htg:Tgt idt Dt)(hf:eg P Fl d sc ifs Df)(hi:SimI P Fl d sc elt gens scope pos (k+1) ids inner)(hdis:∀i∈ids,i∉idt)(hfs:∀env x,foldedSetIterable iter env x=pure x):
 SimI P Fl d sc elt gens scope pos k (idt++ids) (yN De Dt Df inner):=
 SimI.genG (G:=λz=>True) hd trivial hg hn1 he ht htg hf hi hdis hfs (Qe:=λK acc loc v hp1=>∃vs,dp hp1 v=some vs∧mj v hp1 Dt Df inner K vs acc loc hp1) λK acc loc v hp1 h=>by obtain⟨vs,hv,lp⟩:=h;exact⟨vs,hp1,v,its_of hz hv,lp⟩
noncomputable def closL(cells:List (Str×Addr)):List (Str×NameKind)→List (Str×Addr)→List (Str×Addr)
 | [],cs=>cs
 |(n,k)::r,cs=>closL cells r (if k== .free then(match cells.lookup n with|some c=>(n,c)::cs|ac=>cs)else cs)
theorem i9{scope:Scope}{env:Env}(h:∀n k,(n,k)∈scope.names→k= .free→∃c,env.cells.lookup n=some c):closureFor scope env=pure (closL env.cells scope.names []):=by
 unfold closureFor
 have key:∀(l:List (Str×NameKind))(cs:List (Str×Addr)),(∀n k,(n,k)∈l→k= .free→∃c,env.cells.lookup n=some c)→
  (forIn l cs λx r=>(match x with|(name,kind)=>if(kind==bJ)=true then do let a←cellOf env name;pure (fj ((name,a)::r))else pure (fj r):Sem (ForInStep (List (Str×Addr)))))=(pure (closL env.cells l cs):Sem (List (Str×Addr))):=by
  intro l
  induction l with
  |nil=>intro cs _;rfl
  |cons x l ih=>
   obtain⟨n,k⟩:=x
   intro cs hl
   have ih':=λcs=>ih cs λn k m=>hl n k (am _ m)
   rw[pi]
   unfold closL
   cases hk:k==bJ with
   |false=>
    simp only[hk,cg,if_false,pure_bind]
    exact ih' cs
   |true=>
    have hk':k= .free:=by simpa using hk
    refine(hl n k ai hk').elim λc hc=>?_
    simp only[hk,if_true,cellOf,hc,pure_bind]
    exact ih' _
 have:=key scope.names [] h
 simp only[this,pure_bind]
theorem hV{α:Type}{n m:Str}{v:α}{l:List (Str×α)}(h:n≠m):jk n ((m,v)::l)=jk n l:=by
 rw[dE]
 cases q:n==m with
 |false=>rfl
 |true=>exact absurd (by simpa using q) h
theorem hY{α:Type}{n:Str}{v:α}{l:List (Str×α)}:jk n ((n,v)::l)=some v:=by simp[dE]
theorem closL_lookup{cells:List (Str×Addr)}:∀(l:List (Str×NameKind))(cs:List (Str×Addr))(n:Str),(l.map (·.1)).Nodup→(∀n k,(n,k)∈l→k= .free→∃c,cells.lookup n=some c)→
 (closL cells l cs).lookup n=(if(n,bJ)∈l then cells.lookup n else cs.lookup n):=by
 intro xs_
 induction xs_ with
 |nil=>
  intro cs n _ _
  simp[closL]
 |cons e_ l ih=>
  obtain⟨m,k⟩:=e_
  intro cs n hnd hc
  rw[ao,aC]at hnd
  unfold closL
  rw[ih _ n hnd.2 λa b c=>hc a b (am _ c)]
  by_cases h1:(n,bJ)∈l
  ·rw[if_pos h1,if_pos (am _ h1)]
  ·rw[if_neg h1]
   by_cases h2:m=n∧k=bJ
   ·obtain⟨rfl,rfl⟩:=h2
    rw[if_pos ai]
    refine(hc m .free ai rfl).elim λc e=>?_
    rw[e]
    exact hY
   ·have h3:¬(n,bJ)∈(m,k)::l:=by
     intro z
     rcases ah.mp z with z|z
     ·refine(eP z).elim λz1 z2=>?_;exact h2 ⟨z1.symm,z2.symm⟩
     ·exact h1 z
    rw[if_neg h3]
    cases hk:k==bJ with
    |false=>rfl
    |true=>
     have hk':k= .free:=by simpa using hk
     refine(hc m k ai hk').elim λc e=>?_
     have:n≠m:=λz=>h2 ⟨z.symm,hk'⟩
     rw[if_pos rfl,e]
     exact hV this
theorem cellsFrom_other:∀(l:List (Str×NameKind))(b:Nat)(cl:List (Str×Addr))(n:Str),(n,aK)∉l→(cellsFrom b l cl).lookup n=cl.lookup n:=by
 intro xs_
 induction xs_ with
 |nil=>
  intro b cl n _
  exact rfl
 |cons e_ l ih=>
  obtain⟨m,k⟩:=e_
  intro b cl n h
  have h1:(n,aK)∉l:=λz=>h (am _ z)
  unfold cellsFrom
  cases hk:k==aK with
  |false=>rw[if_neg (by simp)];exact ih b cl n h1
  |true=>
   have hk':k= .cell:=by simpa using hk
   rw[if_pos rfl,ih (b+1) _ n h1]
   exact hV λz=>h (by rw[z,hk'];exact ai)
theorem pJ:∀(l:List (Str×NameKind))(h:Heap)(c:Nat),h.objs.size≤c→c<(pushCells h l).objs.size→(pushCells h l).IsCell c ac:=by
 intro xs_
 induction xs_ with
 |nil=>
  intro h c h1 h2
  exact absurd (bc h1 h2) (dC _)
 |cons e_ l ih=>
  obtain⟨m,k⟩:=e_
  intro h c h1 h2
  unfold pushCells at h2⊢
  cases hk:k==aK with
  |false=>
   rw[hk,if_neg (by simp)]at h2
   rw[if_neg (by simp)]
   exact ih h c h1 h2
  |true=>
   rw[hk,if_pos rfl]at h2
   rw[if_pos rfl]
   by_cases q:c=h.objs.size
   ·subst q
    exact⟨_,C1 _ _ _ _ (aq _ rfl),rfl⟩
   ·exact ih _ c (by rw[eY];exact mS h1 (aI q)) h2
noncomputable def nCells(l:List (Str×NameKind)):Nat:=match l with
 | []=>0
 |(_,k)::l=>(if k==aK then 1 else 0)+nCells l
theorem o9:∀(l:List (Str×NameKind))(h:Heap),(pushCells h l).objs.size=h.objs.size+nCells l:=by
 intro xs_
 induction xs_ with
 |nil=>
  intro h
  exact rfl
 |cons e_ l ih=>
  obtain⟨m,k⟩:=e_
  intro h
  unfold pushCells nCells
  cases hk:k==aK with
  |false=>rw[if_neg (by simp),if_neg (by simp),ih h,aW]
  |true=>rw[if_pos rfl,if_pos rfl,ih _,eY,bN]
theorem cellsFrom_bound:∀(l:List (Str×NameKind))(b:Nat)(cl:List (Str×Addr))(n:Str),(n,aK)∈l→∃c:Nat,(cellsFrom b l cl).lookup n=some c∧b≤c∧c<b+nCells l:=by
 intro xs_
 induction xs_ with
 |nil=>
  intro b cl n h
  exact(nomatch h)
 |cons e_ l ih=>
  obtain⟨m,k⟩:=e_
  intro b cl n h
  unfold cellsFrom nCells
  cases hk:k==aK with
  |false=>
   rw[if_neg (by simp),if_neg (by simp),aW]
   have ne:(n,aK)≠(m,k):=by intro e;refine(eP e).elim λy z=>?_;rw[←z]at hk;simp at hk
   exact ih b cl n ((ah.mp h).resolve_left ne)
  |true=>
   rw[if_pos rfl,if_pos rfl]
   by_cases h1:(n,aK)∈l
   ·obtain⟨c,a,b',c'⟩:=ih (b+1) ((m,b)::cl) n h1
    exact⟨c,a,by lia,by lia⟩
   ·have e:=(ah.mp h).resolve_right h1
    refine(eP e).elim λz y=>?_
    refine⟨b,?_,bx _,by lia⟩
    rw[cellsFrom_other l (b+1) _ n h1,z]
    exact hY
end Mine
namespace Mine
variable{P:cH}{Fl:f9}{d:Nat}{sc:Scope}
noncomputable def i2(scope sc:Scope):Scope:=
 {scope with names:=scope.names.map λ(n,k)=>if(k== .free&&sc.kind== .function&&sc.names.lookup n==some .cell)then(n,.cell)else(n,k)}
theorem lg(scope:Scope)(env:Env):relabel scope env=i2 scope env.scope:=rfl
noncomputable def relK(sc:Scope)(n:Str)(k:NameKind):NameKind:=if(k== .free&&sc.kind== .function&&sc.names.lookup n==some .cell)then .cell else k
theorem m6(scope sc:Scope)(n:Str):(i2 scope sc).names.lookup n=(scope.names.lookup n).map (relK sc n):=by
 unfold i2
 simp only
 induction scope.names with
 |nil=>rfl
 |cons x l ih=>
  obtain⟨m,k⟩:=x
  rw[ao]
  by_cases h:n=m
  ·subst h
   by_cases hc:(k==bJ&&sc.kind== .function&&sc.names.lookup n==some .cell)=true
   ·simp only[hc,if_true,hY,bW,relK]
   ·simp only[hc,if_false,hY,bW,relK]
    simp
  ·rw[hV h]
   by_cases hc:(k==bJ&&sc.kind== .function&&sc.names.lookup m==some .cell)=true
   ·simp only[hc,if_true,hV h,ih]
   ·simp only[hc,if_false,ih]
    rw[←ih]
    exact hV h
theorem mem_of_lookup'{l:List (Str×NameKind)}{n:Str}{k:NameKind}(h:l.lookup n=some k):(n,k)∈l:=mem_of_lookup h
theorem i8:∀{l:List (Str×NameKind)}{n:Str}{k:NameKind},(l.map (·.1)).Nodup→(n,k)∈l→l.lookup n=some k:=by
 intro xs_
 induction xs_ with
 |nil=>
  intro _ _ _ h
  exact(nomatch h)
 |cons e_ l ih=>
  obtain⟨m,j⟩:=e_
  intro n k hnd h
  rw[ao,aC]at hnd
  rcases ah.mp h with h'|h'
  ·refine(eP h').elim λa b=>?_;subst a b;exact hY
  ·have:n≠m:=λz=>hnd.1 (an.mpr ⟨(n,k),h',z⟩)
   rw[hV this];exact ih hnd.2 h'
theorem cellsFrom_inj:∀(l:List (Str×NameKind))(b:Nat)(cl:List (Str×Addr))(n n':Str)(c:Addr),(l.map (·.1)).Nodup→(n,aK)∈l→(n',aK)∈l→(cellsFrom b l cl).lookup n=some c→(cellsFrom b l cl).lookup n'=some c→n=n':=by
 intro xs_
 induction xs_ with
 |nil=>
  intro _ _ _ _ _ _ h _ _ _
  exact(nomatch h)
 |cons e_ l ih=>
  obtain⟨m,k⟩:=e_
  intro b cl n n' c hnd h h' e e'
  rw[ao,aC]at hnd
  unfold cellsFrom at e e'
  have nm:∀x,(x,aK)∈l→x≠m:=λx hx z=>hnd.1 (an.mpr ⟨_,hx,z⟩)
  cases hk:k==aK with
  |false=>
   rw[hk,if_neg (by simp)]at e e'
   have ne:∀x,(x,aK)≠(m,k):=by intro x z;refine(eP z).elim λy z=>?_;rw[←z]at hk;simp at hk
   exact ih b cl n n' c hnd.2 ((ah.mp h).resolve_left (ne n)) ((ah.mp h').resolve_left (ne n')) e e'
  |true=>
   rw[hk,if_pos rfl]at e e'
   have own:∀x,(x,aK)∈l→(cellsFrom (b+1) l ((m,b)::cl)).lookup x=some c→b+1≤c:=λx hx ex=>by
    obtain⟨c2,e2,h2,_⟩:=cellsFrom_bound l (b+1) ((m,b)::cl) x hx
    rw[ex]at e2;cases e2;exact h2
   have top:∀x,(x,aK)∉l→(x,aK)∈(m,k)::l→(cellsFrom (b+1) l ((m,b)::cl)).lookup x=some c→x=m∧c=b:=λx hx hm ex=>by
    have z:=(eP ((ah.mp hm).resolve_right hx)).1
    subst z
    rw[cellsFrom_other l (b+1) _ x hx,hY]at ex
    cases ex;exact⟨rfl,rfl⟩
   by_cases h1:(n,aK)∈l<;>by_cases h2:(n',aK)∈l
   ·exact ih (b+1) _ n n' c hnd.2 h1 h2 e e'
   ·have a1:=own n h1 e;have a2:=(top n' h2 h' e').2;rw[a2]at a1;exact absurd a1 (hM _)
   ·have a1:=own n' h2 e';have a2:=(top n h1 h e).2;rw[a2]at a1;exact absurd a1 (hM _)
   ·rw[(top n h1 h e).1,(top n' h2 h' e').1]
noncomputable def fY(scope:Scope)(cl:List (Str×Addr))(L:Addr)(env:Env):Env:=
 {scope:=scope,locals:=L,globals:=env.globals,cells:=cellsFrom (L+1) scope.names cl,qual:=env.qual,func:=none,code:=env.code,frame:=env.frame,builtins:=env.builtins}
theorem tI{A:ax}{env:Env}{s:af}{scope:Scope}{cl:List (Str×Addr)}{Q:Env→af→Prop}{E:Value→af→Prop}
 (h:Q (fY scope cl s.heap.objs.size env) {s with heap:=pushCells (s.heap.push {cls:=.type "dict",data:=.dict #[]}) scope.names}):
 wpAny P.M A (newFunctionEnv scope env.globals cl [] env.qual none .none (some env)) Q E s:=by
 simp only[newFunctionEnv,Option.isSome_some,if_true]
 refine wpAny_bind (wpAny_alloc ?_)
 refine wpAny_bind (wpAny_layCells _ (λname kind cells=>by cases hkc:kind==aK<;>simp[hkc]) _ _ _ _ ?_)
 rw[show({s with heap:=s.heap.push {cls:=.type "dict",data:=.dict #[]}}:af).heap.objs.size=s.heap.objs.size+1 from eY ..]
 exact wpAny_bind (wpAny_pure (wpAny_pure h))
noncomputable def keepL(fr:List Nat)(loc:aZ):aZ:=λi=>if i∈fr then loc i else ac
theorem vH{A:ax}{stk stk':Addr→Prop}{hp:Hp}{env:Env}{loc:aZ}{s:af}{scope:Scope}{fr:List Nat}{L:Addr}{H:Heap}(ev:EnvOk P A stk hp env loc s)(hk:scope.kind= .function)(hnd:(scope.names.map (·.1)).Nodup)
 (hfr:∀i∈fr,scope.names.lookup (P.nm i)=some .free)(hout:∀n,(n,bJ)∈scope.names→env.kindOf n=some .cell∨env.kindOf n=some .free)
 (kp:∀b o,s.heap.get? b=some o→H.get? b=some o)(hL0:∀c o,s.heap.get? c=some o→c<L)(hNs:H.Ns L λ_=>ac)(hnew:∀c,L+1≤c→c<L+1+nCells scope.names→H.IsCell c ac∧stk' c)
 (ky:bB (Fz stk hp) (Fz stk' hp) s.heap H)(hsub:∀a,stk a→stk' a)(hLs:stk' L){tk:Nat}:
 EnvOk P A stk' hp {fY scope (closL env.cells scope.names []) L env with scope:=relabel scope env} (keepL fr loc) {s with heap:=H,toks:=tk}:=by
 have hcl:∀n k,(n,k)∈scope.names→k= .free→∃c,env.cells.lookup n=some c:=λn k h1 h2=>by
  subst h2
  obtain⟨c,_,e,_⟩:=ev.cells n (hout n h1)
  exact⟨c,e⟩
 have kindE:∀n,Ex {fY scope (closL env.cells scope.names []) L env with scope:=relabel scope env} n=(scope.names.lookup n).map (relK env.scope n):=λn=>by
  show(relabel scope env).names.lookup n=_
  rw[lg,m6]
 have free_cells:∀n,(n,bJ)∈scope.names→(cellsFrom (L+1) scope.names (closL env.cells scope.names [])).lookup n=env.cells.lookup n:=λn h=>by
  have h1:(n,aK)∉scope.names:=λz=>by have a:=i8 hnd h;rw[i8 hnd z]at a;cases a
  rw[cellsFrom_other _ _ _ _ h1,closL_lookup _ _ _ hnd hcl,if_pos h]
 have lookup_cases:∀n c,(cellsFrom (L+1) scope.names (closL env.cells scope.names [])).lookup n=some c→((n,aK)∈scope.names∧L+1≤c∧c<L+1+nCells scope.names)∨(env.cells.lookup n=some c∧(n,bJ)∈scope.names):=λn c e=>by
  by_cases h1:(n,aK)∈scope.names
  ·obtain⟨c2,e2,a,b⟩:=cellsFrom_bound scope.names (L+1) (closL env.cells scope.names []) n h1
   rw[e]at e2;cases e2;exact .inl ⟨h1,a,b⟩
  ·rw[cellsFrom_other _ _ _ _ h1,closL_lookup _ _ _ hnd hcl]at e
   by_cases h2:(n,bJ)∈scope.names
   ·rw[if_pos h2]at e;exact .inr ⟨e,h2⟩
   ·rw[if_neg h2]at e;cases e
 have old_lt:∀n c,env.cells.lookup n=some c→(env.kindOf n=some .cell∨env.kindOf n=some .free)→c<L:=λn c e k=>by
  obtain⟨c2,x,e2,⟨o,g,_⟩⟩:=ev.cells n k
  rw[e]at e2;cases e2;exact hL0 _ _ g
 refine⟨hk,ev.glob,ev.blt,⟨_,hNs,λi v h k=>?_⟩,λi v h k=>?_,hLs,λn c e=>?_,λn k=>?_,λn n' c e e'=>?_,λn e=>?_,ev.frs.up hsub λb o _ g d=>⟨o,kp b o g,d⟩,ev.top⟩
 ·exfalso
  unfold keepL at h
  split at h
  ·rename_i hi
   rw[kindE,hfr i hi]at k
   simp only[bW,cO,relK]at k
   split at k<;>cases k
  ·cases h
 ·unfold keepL at h
  split at h
  ·rename_i hi
   have hm:=mem_of_lookup' (hfr i hi)
   obtain⟨c,x,e,g,r⟩:=ev.cell i v h (hout _ hm)
   exact⟨c,x,(free_cells _ hm).trans e,g.keeps kp,r.keep ky⟩
  ·cases h
 ·rcases lookup_cases n c e with⟨_,a,b⟩|⟨e2,_⟩
  ·exact(hnew c a b).2
  ·exact hsub c (ev.stkC n c e2)
 ·have:(n,aK)∈scope.names∨(n,bJ)∈scope.names:=by
   rw[kindE]at k
   cases q:scope.names.lookup n with
   |none=>rw[q]at k;rcases k with k|k<;>cases k
   |some kk=>
    rw[q]at k
    have hm:=mem_of_lookup' q
    cases kk with
    |cell=>exact .inl hm
    |free=>exact .inr hm
    |_=>rcases k with k|k<;>simp[relK]at k
  rcases this with h1|h1
  ·obtain⟨c,e,a,b⟩:=cellsFrom_bound scope.names (L+1) (closL env.cells scope.names []) n h1
   exact⟨c,_,e,(hnew c a b).1⟩
  ·obtain⟨c,x,e,g⟩:=ev.cells n (hout n h1)
   exact⟨c,x,(free_cells n h1).trans e,g.keeps kp⟩
 ·rcases lookup_cases n c e with⟨h1,a,b⟩|⟨e2,h2⟩<;>rcases lookup_cases n' c e' with⟨h1',a',b'⟩|⟨e2',h2'⟩
  ·exact cellsFrom_inj _ _ _ _ _ _ hnd h1 h1' e e'
  ·exact absurd (old_lt n' c e2' (hout n' h2')) (et.mpr (c7 a))
  ·exact absurd (old_lt n c e2 (hout n h2)) (et.mpr (c7 a'))
  ·exact ev.apart n n' c e2 e2'
 ·rcases lookup_cases n L e with⟨_,a,_⟩|⟨e2,h2⟩
  ·exact absurd a (hM _)
  ·exact absurd (old_lt n L e2 (hout n h2)) (dC _)
theorem Ext.to1{own stk stk':Addr→Prop}{hp hp':Hp}{s s':af}(e:Ext own stk' hp s hp' s')(h:∀b,own b→s.heap.get? b=ac)(hs:∀b,stk' b→stk b∨s.heap.get? b=ac)(sub:∀b,stk b→stk' b):Ext no1 stk hp s hp' s':=by
 refine⟨λb o a y g=>?_,e.there,λb o st g d=>e.dic b o (sub b st) g d,e.fresh,e.drawn,e.os⟩
 rcases e.keep b o a (λz=>by rw[h b z]at g;cases g) g with q|⟨z,d,sl,q⟩
 ·exact .inl q
 ·rcases hs b z with z|z
  ·exact .inr ⟨z,d,sl,q⟩
  ·rw[z]at g;cases g
theorem Ext.more{own stk stk':Addr→Prop}{hp hp':Hp}{s s':af}(e:Ext own stk hp s hp' s')(h:∀b,stk b→stk' b)(h2:∀b,stk' b→stk b∨s.heap.get? b=ac):Ext own stk' hp s hp' s':=by
 refine⟨λb o a n g=>(e.keep b o a n g).imp id (by rintro⟨z,r⟩;exact⟨h b z,r⟩),e.there,λb o st g d=>?_,e.fresh,e.drawn,e.os⟩
 rcases h2 b st with z|z
 ·exact e.dic b o z g d
 ·rw[z]at g;cases g
theorem Ext.dataOf{own stk:Addr→Prop}{hp hp':Hp}{s s':af}(e:Ext own stk hp s hp' s'){b:Addr}{o:Obj}(a:hp b=ac)(n:¬own b)(g:s.heap.get? b=some o):∃o',s'.heap.get? b=some o'∧o'.data=o.data:=by
 rcases e.keep b o a n g with q|⟨_,_,sl,q⟩
 ·exact⟨o,q,rfl⟩
 ·exact⟨_,q,rfl⟩
theorem HeapOk.sub{stk stk':Addr→Prop}{hp:Hp}{s:af}(ok:HeapOk P stk' hp s)(h:∀a,stk a→stk' a):HeapOk P stk hp s:=
 ⟨λa o e=>(ok.obj a o e).keep (λa o f g=>⟨⟨f.1,λz=>f.2 (h a z)⟩,g⟩) (λo g=>g),λa e z=>ok.apart a e (h a z),ok.base,ok.new,λa z=>ok.stkn a (h a z),λa z=>ok.stkl a (h a z),ok.gens⟩
theorem wJ{stk:Addr→Prop}{hp:Hp}{s:af}(ok:HeapOk P stk hp s){H:Heap}{tk:Nat}{N:Addr→Prop}(hn:∀a,N a→s.heap.get? a=ac)(hH:∀a,N a→∃o,H.get? a=some o)(k:∀b o,s.heap.get? b=some o→H.get? b=some o):
 HeapOk P (λa=>stk a∨N a) hp {s with heap:=H,toks:=tk}∧bB (Fz stk hp) (Fz (λa=>stk a∨N a) hp) s.heap H:=by
 have ky:bB (Fz stk hp) (Fz (λa=>stk a∨N a) hp) s.heap H:=by
  intro a o i1_ g;refine i1_.elim λe n=>?_
  refine⟨⟨e,?_⟩,k a o g⟩
  rintro(z|z)
  ·exact n z
  ·rw[hn a z]at g;cases g
 refine⟨⟨λa o e=>(ok.obj a o e).keep ky (λo g=>k a o g),λa e=>?_,λb o e=>k b o (ok.base b o e),ok.new,λa z=>?_,λa z=>?_,ok.gens⟩,ky⟩
 ·rintro(z|z)
  ·exact ok.apart a e z
  ·exact e (fz_of_new ok (hn a z)).1
 ·rcases z with z|z
  ·exact ok.stkn a z
  ·cases g:P.H₀.get? a with
   |none=>rfl
   |some o=>have:=ok.base a o g;rw[hn a z]at this;cases this
 ·rcases z with z|z
  ·refine(ok.stkl a z).elim λo e=>?_;exact⟨o,k a o e⟩
  ·exact hH a z
structure bf(P:cH)(scope sc:Scope)(fr ids:List Nat):Prop where
 kind:scope.kind= .function
 nodup:(scope.names.map (·.1)).Nodup
 free:∀i∈fr,scope.names.lookup (P.nm i)=some .free
 out:∀n,(n,bJ)∈scope.names→sc.names.lookup n=some .cell∨sc.names.lookup n=some .free
 own:∀i∈ids,scope.names.lookup (P.nm i)=some .local∨scope.names.lookup (P.nm i)=some .cell
structure lQ(P:cH)(stk:Addr→Prop)(hp hp':Hp)(s s':af)(D C:Addr)(acc:List V):Prop where
 ext:Ext no1 stk hp s hp' s'
 dif:D≠C
 fD:s.heap.get? D=ac
 all:∃stkN:Addr→Prop,(∀a,stk a→stkN a)∧HeapOk P stkN hp' s'∧stkN D∧stkN C∧¬stk D∧¬stk C∧s.heap.get? C=ac∧(∃m,s'.heap.Ns C m)∧∃ys,s'.heap.PlainList D ys∧P.VRs stkN hp' s'.heap acc ys.toList
set_option tactic.hygienic true in
theorem mP{G:Expr→Prop}(hd:0<d){elt:Expr}{gens:List cb}{scope:Scope}{pos:Pos}{t iter:Expr}{ifs:List Expr}{idt ids fr:List Nat}{De:DE}{Dt:DA}{Df:DT}{inner:CD}(hG:G t)(hg:gens[0]?=some ⟨t,iter,ifs,0⟩)(hn1:gens[1]?=ac∨∃t' i' f',gens[1]?=some ⟨t',i',f',0⟩)
 (F:bf P scope sc fr (idt++ids))
 (he:bz P Fl d sc iter De)(ht:SimG P Fl d (i2 scope sc) t idt Dt)(htg:Tgt idt Dt)(hf:eg P Fl d (i2 scope sc) ifs Df)(hi:SimI P Fl d (i2 scope sc) elt gens scope pos 1 ids inner)(hdis:∀i∈ids,i∉idt)
 {A:ax}{env:Env}{s:af}{K:List V→Hp→Prop}{X:XA}{loc:aZ}{hp:Hp}{stk:Addr→Prop}{RR:Value→Addr→qs→af→Prop}{E:Value→af→Prop}(rm:dY d A)(hs:env.scope=sc)(ev:EnvOk P A stk hp env loc s)(ok:HeapOk P stk hp s)
 {Qe:V→Hp→Prop}(hQe:∀v hp1,Qe v hp1→∃vs hpL u,Its P v vs hp1 hpL G (same u hpL)∧mj u hpL Dt Df inner K vs [] (keepL fr loc) hpL)(hD:De Qe X loc hp)
 (hX:∀e s',PostT P no1 stk hp s (lX Fl X) e s'→E e s')
 (hRR:∀D C hp' acc f s',lQ P stk hp hp' s s' D C acc→K acc hp'→RR (.ref D) C (.ok f) s'):
 wpAny P.M A (eval iter env) (λx s₁=>wpAny P.M A (pyIter x) (λit s₂=>wpAny P.M A (newList []) (λacc s₃=>wpAny P.M A (newFunctionEnv scope env.globals (closL env.cells scope.names []) [] env.qual none .none (some env)) (λcenv s₄=>
  codeAny P.M A (.compStart (.ListComp elt gens scope pos) 0 it acc {cenv with scope:=relabel scope env}) (RR acc cenv.locals) s₄) E s₃) E s₂) E s₁) E s:=by
 refine wpAny_mono (he A env s _ X loc hp stk rm hs ev ok hD) (λx s1 hq=>?_) hX
 obtain⟨hp1,e1,ok1,v,hq,r⟩:=hq
 refine(hQe _ _ hq).elim λvs r1_=>r1_.elim λhpL r2_=>r2_.elim λu r3_=>r3_.elim λhv lp=>?_
 have ev1:=ev.step ok e1
 refine hv A s1 stk x _ _ (rm.hd hd) ok1 r λI J Jo R St h2 N0 kp W st0 r0=>?_
 refine dm (tI ?_)
 dsimp only
 generalize hH3:h2.push {cls:=.type "list",dict:=none,data:=.seq ([]:List Value).toArray}=H3
 have sz3:H3.objs.size=h2.objs.size+1:=by rw[←hH3,eY]
 have hsz1:∀c o,s1.heap.get? c=some o→c<h2.objs.size:=λc o g=>a8 (kp c o g)
 generalize hH4:H3.push {cls:=.type "dict",dict:=none,data:=.dict #[]}=H4
 have sz4:H4.objs.size=H3.objs.size+1:=by rw[←hH4,eY]
 generalize hH5:pushCells H4 scope.names=H5
 have sz5:H5.objs.size=H4.objs.size+nCells scope.names:=by rw[←hH5,o9]
 have k34:∀b o,H3.get? b=some o→H4.get? b=some o:=λb o e=>by rw[←hH4];exact aj _ e
 have k45:∀b o,H4.get? b=some o→H5.get? b=some o:=λb o e=>by rw[←hH5];exact C1 _ _ _ _ e
 have k23:∀b o,h2.get? b=some o→H3.get? b=some o:=λb o e=>by rw[←hH3];exact aj _ e
 have k25:∀b o,h2.get? b=some o→H5.get? b=some o:=λb o e=>k45 b o (k34 b o (k23 b o e))
 have k15:∀b o,s1.heap.get? b=some o→H5.get? b=some o:=λb o e=>k25 b o (kp b o e)
 have gD:H5.get? h2.objs.size=some {cls:=.type "list",dict:=none,data:=.seq ([]:List Value).toArray}:=k45 _ _ (k34 _ _ (by rw[←hH3];exact aq _ rfl))
 have gL:H5.get? H3.objs.size=some {cls:=.type "dict",dict:=none,data:=.dict #[]}:=k45 _ _ (by rw[←hH4];exact aq _ rfl)
 have hI:∀a,J a→¬stk a:=λa z=>N0.notStk ok1 z
 have ltI:∀a,J a→a<h2.objs.size:=λa z=>(by obtain⟨oI,gI⟩:=W.alive 0 _ st0 a z;exact a8 gI)
 let N:Addr→Prop:=λa=>h2.objs.size≤a∧a<H5.objs.size∧∃o,H5.get? a=some o
 have hNn:∀a,N a→s1.heap.get? a=ac:=λa z=>by
  cases g:s1.heap.get? a with
  |none=>rfl
  |some o=>exact absurd (hsz1 a o g) (et.mpr z.1)
 have ND:N h2.objs.size:=⟨bx _,a8 gD,_,gD⟩
 have NL:N H3.objs.size:=⟨by rw[sz3];exact gb _,a8 gL,_,gL⟩
 have NI:∀a,J a→¬N a:=λa q z=>et.mpr z.1 (ltI a q)
 have Nc:∀c,H3.objs.size+1≤c→c<H3.objs.size+1+nCells scope.names→H5.IsCell c ac∧N c:=λc a b=>by
  have:H5.IsCell c ac:=by rw[←hH5];exact pJ _ _ c (by rw[sz4];exact a) (by rw[hH5,sz5,sz4];exact b)
  refine(id this).elim λo r1_=>r1_.elim λg z=>?_
  exact⟨this,by lia,a8 g,o,g⟩
 have okP:HeapOk P (bP stk J) hpL {s1 with heap:=h2}:=sU (tk:=s1.toks) ok1 N0 kp (W.alive 0 _ st0)
 have hNn2:∀a,N a→h2.get? a=ac:=λa z=>by
  cases g:h2.get? a with
  |none=>rfl
  |some o=>exact absurd (a8 g) (et.mpr z.1)
 refine(wJ (tk:=s1.toks) (H:=H5) okP (N:=N) hNn2 (λa z=>z.2.2) k25).elim λokA kyB=>?_
 have stEq:(λa=>bP stk J a∨N a)=bP (λa=>stk a∨N a) J:=by
  funext a;simp only[bP,or_right_comm]
 rw[stEq]at okA kyB
 have kyA:bB (Fz stk hp1) (Fz (bP (λa=>stk a∨N a) J) hpL) s1.heap H5:=λa o f g=>(by
  refine(fzPlus N0 kp a o f g).elim λf2 g2=>?_
  exact kyB a o f2 g2)
 have evA:EnvOk P A (bP (λa=>stk a∨N a) J) hpL {fY scope (closL env.cells scope.names []) H3.objs.size env with scope:=relabel scope env} (keepL fr loc) {s1 with heap:=H5}:=
  vH (s:={s1 with heap:=h2}) (tk:=s1.toks) (sY (tk:=s1.toks) ev1 N0 kp) F.kind F.nodup F.free (λn h=>by have:=F.out n h;rw[←hs]at this;exact this) k25 (λc o g=>by rw[sz3];exact gA (a8 g)) ⟨_,_,_,gL,rfl,(by intro e he;simp at he),λ_=>rfl⟩ (λc a b=>⟨(Nc c a b).1,.inl (.inr (Nc c a b).2)⟩) kyB (λa z=>z.elim (λz=>.inl (.inl z)) .inr) (.inl (.inr NL))
 have neDL:h2.objs.size≠H3.objs.size:=by rw[sz3];exact gy (cR _)
 have cellN:∀n c,(cellsFrom (H3.objs.size+1) scope.names (closL env.cells scope.names [])).lookup n=some c→(stk c∨N c)∧c≠h2.objs.size:=λn c e=>by
  by_cases h1:(n,aK)∈scope.names
  ·obtain⟨c2,e2,a,b⟩:=cellsFrom_bound scope.names (H3.objs.size+1) (closL env.cells scope.names []) n h1
   rw[e]at e2;cases e2
   exact⟨.inr (Nc c a b).2,gz (by rw[sz3]at a;exact aA (gA (cR _)) a)⟩
  ·have hcl:∀n k,(n,k)∈scope.names→k= .free→∃c,env.cells.lookup n=some c:=λn k h1 h2=>by
    subst h2
    refine(ev1.cells n (by have:=F.out n h1;rw[←hs]at this;exact this)).elim λc r1_=>r1_.elim λ_ r3_=>r3_.elim λe _=>?_
    exact⟨c,e⟩
   rw[cellsFrom_other _ _ _ _ h1,closL_lookup _ _ _ F.nodup hcl]at e
   by_cases h2:(n,bJ)∈scope.names
   ·rw[if_pos h2]at e
    have sc':=ev1.stkC n c e
    refine(ok1.stkl c sc').elim λo g=>?_
    exact⟨.inl sc',gy (hsz1 c o g)⟩
   ·rw[if_neg h2]at e;cases e
 have cA:CSt P A (bP (λa=>stk a∨N a) J) hpL {fY scope (closL env.cells scope.names []) H3.objs.size env with scope:=relabel scope env} (keepL fr loc) {s1 with heap:=H5} h2.objs.size []:=
  ⟨evA,okA,.inl (.inr ND),neDL,λn e=>(cellN n _ e).2 rfl,#[],⟨0,gD⟩,vNil⟩
 have ownF:∀b,mm P {fY scope (closL env.cells scope.names []) H3.objs.size env with scope:=relabel scope env} (idt++ids) h2.objs.size b→N b:=by
  rintro b (⟨i,hi,⟨_,z⟩|⟨_,z⟩⟩|z)
  ·subst z;exact NL
  ·rcases F.own i hi with q|q
   ·exfalso
    rename_i hk
    have:Ex {fY scope (closL env.cells scope.names []) H3.objs.size env with scope:=relabel scope env} (P.nm i)=(scope.names.lookup (P.nm i)).map (relK env.scope (P.nm i)):=by
     show(relabel scope env).names.lookup (P.nm i)=_
     rw[lg,m6]
    rw[this,q]at hk
    simp[relK]at hk
   ·obtain⟨c2,e2,a,b'⟩:=cellsFrom_bound scope.names (H3.objs.size+1) (closL env.cells scope.names []) (P.nm i) (mem_of_lookup' q)
    have:(cellsFrom (H3.objs.size+1) scope.names (closL env.cells scope.names [])).lookup (P.nm i)=some b:=z
    rw[this]at e2;cases e2
    exact(Nc b a b').2
  ·subst z;exact ND
 have st5:St 0 H5:=W.frame _ _ _ st0 λb _ o g=>k25 _ _ g
 have e15:Ext (mm P {fY scope (closL env.cells scope.names []) H3.objs.size env with scope:=relabel scope env} (idt++ids) h2.objs.size) (λa=>stk a∨N a) hp1 s1 hp1 {s1 with heap:=H5}:=Ext.grow (stk:=λa=>stk a∨N a) (tk:=s1.toks) k15
 have fresh:∀i∈idt++ids,keepL fr loc i=ac:=λi hi=>by
  unfold keepL
  split
  ·rename_i hm
   have:=F.free i hm
   rcases F.own i hi with q|q<;>rw[q]at this<;>cases this
  ·rfl
 have run:=xc (P:=P) (Fl:=Fl) (K:=K) hd hg hn1 ht htg hf hi hdis rm (env:={fY scope (closL env.cells scope.names []) H3.objs.size env with scope:=relabel scope env}) (by show relabel scope env=_;rw[lg,hs]) (stk:=λa=>stk a∨N a) hG fresh (λa q z=>z.elim (hI a q) (NI a q)) e15 N0 cA (.inr NL) (λn c e=>(cellN n c e).1) (ev1.frs.up (λ_ z=>.inl z) λb o _ g d=>⟨o,g,d⟩) (.inr ND) W st5 (W.rk _ _ _ _ kyA r0) lp
 refine k9 (ua (P:=P) hg (λQ E q=>W.self A 0 _ Q E st5 q) run) λrr s' hr=>?_
 cases rr with
 |error e=>exact hr.elim
 |ok f=>
  refine hr.elim λhp' r1_=>r1_.elim λacc' r2_=>r2_.elim λex r3_=>r3_.elim λcc q=>?_
  refine hRR _ _ hp' acc' f s' ⟨e1.trans (ex.to1 (λb z=>hNn b (ownF b z)) (λb z=>z.imp id (hNn b)) λb z=>.inl z),neDL,(by
   cases g:s.heap.get? h2.objs.size with
   |none=>rfl
   |some o=>obtain⟨o',g'⟩:=e1.there _ _ g;rw[hNn _ ND]at g';cases g'),_,λa z=>.inl z,cc.ok,.inr ND,.inr NL,?_,?_,?_,?_,cc.lst⟩ q
  ·intro z;refine(ok1.stkl _ z).elim λo g=>?_;rw[hNn _ ND]at g;cases g
  ·intro z;refine(ok1.stkl _ z).elim λo g=>?_;exact nomatch (hNn _ NL).symm.trans g
  ·show s.heap.get? H3.objs.size=ac
   cases g:s.heap.get? H3.objs.size with
   |none=>rfl
   |some o=>obtain⟨o',g'⟩:=e1.there _ _ g;rw[hNn _ NL]at g';cases g'
  ·obtain⟨m,n,_⟩:=cc.ev.ns;exact⟨m,n⟩
end Mine
namespace Mine
variable{A:ax}{P:cH}{Fl:f9}{d:Nat}{sc:Scope}
noncomputable def dF(fr:List Nat)(src:DE)(t:DA)(f:DT)(inner:CD):DE:=λQ X loc hp=>src (λv hp1=>∃vs,dp hp1 v=some vs∧mj v hp1 t f inner (λacc hp'=>Q (.lst acc) hp') vs [] (keepL fr loc) hp1) X loc hp
theorem lQ.fin{stk:Addr→Prop}{hp hp':Hp}{s s':af}{D C:Addr}{acc:List V}(c:lQ P stk hp hp' s s' D C acc){h':Heap}(hs:bv C s'.heap h'):Ext no1 stk hp s hp' {s' with heap:=h'}∧HeapOk P stk hp' {s' with heap:=h'}∧P.VR stk hp' h' (.lst acc) (.ref D):=by
 obtain⟨stkN,sub,ok,sD,sC,nD,nC,fC,_,ys,⟨n,g⟩,r⟩:=c.all
 have ky:bB (Fz stkN hp') (Fz stk hp') s'.heap h':=λa o f g=>⟨⟨f.1,λz=>f.2 (sub a z)⟩,(hs.2 a (λz=>f.2 (z▸sC))).trans g⟩
 have nI:∀b o,s.heap.get? b=some o→b≠C:=by rintro b o g rfl;rw[fC]at g;cases g
 refine⟨⟨λb o a n g=>?_,λb o g=>?_,λb o st g d=>?_,c.ext.fresh,c.ext.drawn,c.ext.os⟩,⟨λa o e=>(ok.obj a o e).keep ky λo g=>(hs.2 a ?_).trans g,λa e z=>ok.apart a e (sub a z),λb o e=>(hs.2 b ?_).trans (ok.base b o e),ok.new,λa z=>ok.stkn a (sub a z),λa z=>?_,ok.gens⟩,?_⟩
 ·rcases c.ext.keep b o a n g with q|⟨z,d,sl,q⟩
  ·exact .inl ((hs.2 b (nI b o g)).trans q)
  ·exact .inr ⟨z,d,sl,(hs.2 b (nI b o g)).trans q⟩
 ·obtain⟨o',g'⟩:=c.ext.there b o g
  exact⟨o',(hs.2 b (nI b o g)).trans g'⟩
 ·obtain⟨o',g',d'⟩:=c.ext.dic b o st g d
  exact⟨o',(hs.2 b (nI b o g)).trans g',d'⟩
 ·rintro rfl;rw[stk_none ok sC]at e;cases e
 ·rintro rfl;rw[ok.stkn b sC]at e;cases e
 ·obtain⟨o,g⟩:=ok.stkl a (sub a z);exact⟨o,(hs.2 a (by rintro rfl;exact nC z)).trans g⟩
 ·simp only[VRe]
  exact⟨D,ys,rfl,⟨stk_none ok sD,nD⟩,⟨n,(hs.2 D c.dif).trans g⟩,r.keep ky⟩
theorem EnvOk.move{stk stk':Addr→Prop}{hp hp':Hp}{env:Env}{loc:aZ}{s s':af}(ev:EnvOk P A stk hp env loc s)(ky:bB (Fz stk hp) (Fz stk' hp') s.heap s'.heap)(kp:∀a o,stk a→s.heap.get? a=some o→∃o',s'.heap.get? a=some o'∧o'.data=o.data)(sub:∀a,stk a→stk' a):EnvOk P A stk' hp' env loc s':=by
 refine⟨ev.kind,ev.glob,ev.blt,?_,λj u g kk=>?_,sub _ ev.stkL,λn c z=>sub _ (ev.stkC n c z),λn kk=>?_,ev.apart,ev.apartL,ev.frs.up sub λb o z g hd=>(by obtain⟨es,n,d⟩:=hd;obtain⟨o',g',d'⟩:=kp b o z g;exact⟨o',g',es,n,d'.trans d⟩),ev.top⟩
 ·obtain⟨m,⟨o,es,ep,g,rr,r3⟩,hm⟩:=ev.ns
  obtain⟨o',g',d'⟩:=kp _ _ ev.stkL g
  exact⟨m,⟨o',es,ep,g',d'.trans rr,r3⟩,λj u a b=>(by obtain⟨z,p,q⟩:=hm j u a b;exact⟨z,p,q.keep ky⟩)⟩
 ·obtain⟨c,z,p,⟨o,g,rr⟩,q⟩:=ev.cell j u g kk
  obtain⟨o',g',d'⟩:=kp _ _ (ev.stkC _ _ p) g
  exact⟨c,z,p,⟨o',g',d'.trans rr⟩,q.keep ky⟩
 ·obtain⟨c,z,p,⟨o,g,rr⟩⟩:=ev.cells n kk
  obtain⟨o',g',d'⟩:=kp _ _ (ev.stkC _ _ p) g
  exact⟨c,z,p,⟨o',g',d'.trans rr⟩⟩
theorem mM{scope:Scope}(hnd:(scope.names.map (·.1)).Nodup):∀x∈scope.names,x.2= .local→scope.names.lookup x.1=some .local:=λx hx h=>i8 hnd (by rw[←h];exact hx)
theorem Sim.compG{G:Expr→Prop}(hd:0<d){elt:Expr}{rest:List cb}{scope:Scope}{pos:Pos}{t iter:Expr}{ifs:List Expr}{idt ids fr:List Nat}{De:DE}{Dt:DA}{Df:DT}{inner:CD}(hG:G t)(hn1:rest[0]?=ac∨∃t' i' f',rest[0]?=some ⟨t',i',f',0⟩)
 (F:bf P scope sc fr (idt++ids))
 (he:bz P Fl d sc iter De)(ht:SimG P Fl d (i2 scope sc) t idt Dt)(htg:Tgt idt Dt)(hf:eg P Fl d (i2 scope sc) ifs Df)(hi:SimI P Fl d (i2 scope sc) elt (⟨t,iter,ifs,0⟩::rest) scope pos 1 ids inner)(hdis:∀i∈ids,i∉idt)(hfs:∀env x,foldedSetIterable iter env x=pure x)
 {Qe:(V→Hp→Prop)→aZ→V→Hp→Prop}(hQe:∀Q loc v hp1,Qe Q loc v hp1→∃vs hpL u,Its P v vs hp1 hpL G (same u hpL)∧mj u hpL Dt Df inner (λacc hp'=>Q (.lst acc) hp') vs [] (keepL fr loc) hpL):
 bz P Fl d sc (.ListComp elt (⟨t,iter,ifs,0⟩::rest) scope pos) (λQ X loc hp=>De (Qe Q loc) X loc hp):=by
 intro A env s Q X loc hp stk rm hs ev ok hD
 rw[T,Ff]
 refine kq (use:=none) rfl (hfs env) (i9 λn k h1 h2=>?_) F.kind (mM F.nodup) ?_
 ·subst h2
  obtain⟨c,_,e,_⟩:=ev.cells n (by have:=F.out n h1;rw[←hs]at this;exact this)
  exact⟨c,e⟩
 ·refine mP (K:=λacc hp'=>Q (.lst acc) hp') hd hG rfl hn1 F he ht htg hf hi hdis rm hs ev ok (hQe Q loc) hD (λy y z=>z) λD C hp' acc f s' ce q=>?_
  refine ce.all.elim λy r2_=>r2_.elim λy r4_=>r4_.elim λy r6_=>r6_.elim λy r8_=>r8_.elim λy r10_=>r10_.elim λy r12_=>r12_.elim λy r14_=>r14_.elim λy r16_=>r16_.elim λe17_ y=>e17_.elim λm hn=>?_
  refine⟨m,hn,λh' hs'=>?_⟩
  refine(ce.fin hs').elim λe r1_=>r1_.elim λok' r=>?_
  exact⟨hp',e,ok',_,q,r⟩
theorem Sim.comp(hz:(P.H₀.get? sysModules).isSome=true)(hd:0<d){elt:Expr}{rest:List cb}{scope:Scope}{pos:Pos}{t iter:Expr}{ifs:List Expr}{idt ids fr:List Nat}{De:DE}{Dt:DA}{Df:DT}{inner:CD}(hn1:rest[0]?=ac∨∃t' i' f',rest[0]?=some ⟨t',i',f',0⟩)
 (F:bf P scope sc fr (idt++ids))
 (he:bz P Fl d sc iter De)(ht:SimG P Fl d (i2 scope sc) t idt Dt)(htg:Tgt idt Dt)(hf:eg P Fl d (i2 scope sc) ifs Df)(hi:SimI P Fl d (i2 scope sc) elt (⟨t,iter,ifs,0⟩::rest) scope pos 1 ids inner)(hdis:∀i∈ids,i∉idt)(hfs:∀env x,foldedSetIterable iter env x=pure x):
 bz P Fl d sc (.ListComp elt (⟨t,iter,ifs,0⟩::rest) scope pos) (dF fr De Dt Df inner):=
 Sim.compG (G:=λz=>True) hd trivial hn1 F he ht htg hf hi hdis hfs (Qe:=λQ loc v hp1=>∃vs,dp hp1 v=some vs∧mj v hp1 Dt Df inner (λacc hp'=>Q (.lst acc) hp') vs [] (keepL fr loc) hp1) λQ loc v hp1 h=>by obtain⟨vs,hv,lp⟩:=h;exact⟨vs,hp1,v,its_of hz hv,lp⟩
theorem SimS.asgComp(inj:∀i j,P.nm i=P.nm j→i=j)(hz:(P.H₀.get? sysModules).isSome=true)(hd:0<d){i:Nat}{x:Str}{px spos:Pos}{elt:Expr}{rest:List cb}{scope:Scope}{pos:Pos}{t iter:Expr}{ifs:List Expr}{idt ids fr:List Nat}{De:DE}{Dt:DA}{Df:DT}{inner:CD}(hn1:rest[0]?=ac∨∃t' i' f',rest[0]?=some ⟨t',i',f',0⟩)
 (hx:P.nm i=x)(hk:sc.names.lookup x=some .local)
 (F:bf P scope sc fr (idt++ids))
 (he:bz P Fl d sc iter De)(ht:SimG P Fl d (i2 scope sc) t idt Dt)(htg:Tgt idt Dt)(hf:eg P Fl d (i2 scope sc) ifs Df)(hi:SimI P Fl d (i2 scope sc) elt (⟨t,iter,ifs,0⟩::rest) scope pos 1 ids inner)(hdis:∀i∈ids,i∉idt)(hfs:∀env x,foldedSetIterable iter env x=pure x)
 (hsw:∀env:Env,env.scope=sc→swapsWith (.ListComp elt (⟨t,iter,ifs,0⟩::rest) scope pos) (some (.Name x px)) spos.line env=pure true):
 SimS P Fl d sc (.Assign [.Name x px] (.ListComp elt (⟨t,iter,ifs,0⟩::rest) scope pos) spos) (bE (dF fr De Dt Df inner) (aG i)):=by
 subst hx
 intro A env s Q X loc hp stk rm hs ev ok hD
 rw[T,exec_Assign_Name_used _ _ _ _ (hsw env hs)]
 refine wpAny_bind (wpAny_standAt (wpAny_bind ?_))
 show wpAny _ A (do let _←comprehension (.ListComp elt (⟨t,iter,ifs,0⟩::rest) scope pos) scope env _ (newList []) false (eval iter env) (some (assign (.Name (P.nm i) px) env))) _ _ s
 refine wpAny_bind (wpAny_mono (kq (use:=some (assign (.Name (P.nm i) px) env)) (Q:=λy s'=>PostT P (gc env) stk hp s (QS P A stk env Q) .next s') rfl (hfs env) (i9 λn k h1 h2=>?_) F.kind (mM F.nodup) ?_) (λy s' hq=>wpAny_pure (wpAny_pure hq)) λy y e=>e)
 ·subst h2
  obtain⟨c,_,e,_⟩:=ev.cells n (by have:=F.out n h1;rw[←hs]at this;exact this)
  exact⟨c,e⟩
 ·refine mP (G:=λy=>True) (K:=λacc hp'=>Q .next (upd loc i (.lst acc)) hp') (X:=λk hp'=>X k loc hp') hd trivial rfl hn1 F he ht htg hf hi hdis rm hs ev ok (λv hp1 h=>by obtain⟨vs,hv,lp⟩:=h;exact⟨vs,hp1,v,its_of hz hv,lp⟩) hD (λe s'=>?_) λD C hp' acc f s' ce q=>?_
  ·rintro⟨hp1,e1,ok1,k,hx,hf⟩
   exact⟨hp1,e1.of1,ok1,k,loc,ev.step ok e1,hx,hf⟩
  ·obtain⟨stkN,sub,okN,sD,sC,nD,nC,fC,⟨m,hn⟩,ys,⟨n,pl⟩,r⟩:=ce.all
   have okP:HeapOk P (bP stk (one C)) hp' s':=okN.sub λa z=>z.elim (sub a) (λq=>q▸sC)
   have kyP:bB (Fz stk hp) (Fz (bP stk (one C)) hp') s.heap s'.heap:=λa o f g=>by
    refine(ce.ext.keepy (stk:=stk) (λy z=>z.elim) a o f g).elim λf2 g2=>?_
    exact⟨⟨f2.1,λz=>z.elim f2.2 (by rintro rfl;rw[fC]at g;cases g)⟩,g2⟩
   have evP:EnvOk P A (bP stk (one C)) hp' env loc s':=ev.move kyP (λa o z g=>ce.ext.dataOf (stk_none ok z) (λz=>z) g) λa z=>.inl z
   have rP:P.VR (bP stk (one C)) hp' s'.heap (.lst acc) (.ref D):=by
    simp only[VRe]
    exact⟨D,ys,rfl,⟨stk_none okN sD,λz=>z.elim nD ce.dif⟩,⟨n,pl⟩,r.keep λa o f g=>⟨⟨f.1,λz=>f.2 (z.elim (sub a) (λq=>q▸sC))⟩,g⟩⟩
   show wpAny _ A (assign (.Name (P.nm i) px) env (.ref D)) _ _ s'
   refine wpAny_assign_Name (storeVar inj (by rw[hs,hk]) evP okP rP λs2 e2 ev2 ok2=>?_)
   have hCown:¬ml P env [i] C:=λz=>nC (ev.own C (ownI_E C z))
   refine⟨m,let ⟨o,es,ep,g,d,r⟩:=hn;(by obtain⟨o',g',d'⟩:=e2.dataOf (stk_none okN sC) hCown g;exact⟨o',es,ep,g',d'.trans d,r⟩),λh' hs'=>?_⟩
   obtain⟨ex,okx,evx⟩:=leaveI (own:=gc env) (stk:=stk) (env:=env) (loc:=upd loc i (.lst acc)) (tk:=s2.toks) (Ext.refl _ _ hp s) (Wen.one ok fC) (((ce.ext.of1.more (stk':=bP stk (one C)) (λb z=>.inl z) λb (z:stk b∨b=C)=>z.elim .inl λq=>.inr (q▸fC)).trans (e2.wider ownI_E)).wider λb z=>.inl z) (λa z q=>nC (z▸q)) ok2 (λy z=>z.elim) λb o n g=>(hs'.2 b n).trans g
   exact⟨hp',ex,okx,.next,_,evx ev.stkL ev.stkC ev.frs ev2,q,trivial⟩
end Mine
namespace Mine
variable{P:cH}{d:Nat}{sc:Scope}
noncomputable def sL(h:Heap)(S:List Addr):Heap:=⟨h.objs.mapIdx λi o=>if i∈S then{o with data:=.freed}else o,h.life⟩
theorem qL{h:Heap}{S:List Addr}{b:Addr}(hb:b∈S):(sL h S).get? b=ac:=by
 unfold sL Ew
 rw[sF]
 cases q:h.objs[b]? with
 |none=>rfl
 |some o=>rw[bW,if_pos hb]
theorem hide_out{h:Heap}{S:List Addr}{b:Addr}(hb:b∉S):(sL h S).get? b=h.get? b:=by
 unfold sL Ew
 rw[sF]
 cases q:h.objs[b]? with
 |none=>rfl
 |some o=>rw[bW,if_neg hb]
theorem tN{h:Heap}{S:List Addr}:(sL h S).StaysIn h:=λb o e=>by
 by_cases hb:b∈S
 ·rw[qL hb]at e;cases e
 ·rwa[hide_out hb]at e
noncomputable def ExcAt(cls:Value)(ea:Addr)(tr:Option Addr)(fl:Value)(h:Heap):Prop:=
 ∃oe vs a0,h.get? ea=some oe∧oe.cls=cls∧oe.data= .fields vs∧vs[0]?=some a0∧1<vs.size∧(match tr with
  |ac=>vs[1]?=some .none
  |some T=>vs[1]?=some (.ref T)∧T≠ea∧∃oT ts,h.get? T=some oT∧oT.data= .fields ts∧ts[3]?=some fl)
noncomputable def nY(hp:Hp)(ea:Addr):Option Addr→Hp
 |ac=>upd hp ea .fld
 |some T=>upd (upd hp ea .fld) T .fld
noncomputable def cj(ex:Nat→Value):f9:=λk e hp' s=>∃ea tr,e= .ref ea∧k.2 ea=ac∧(∀T,tr=some T→k.2 T=ac)∧hp'=nY k.2 ea tr∧ExcAt (ex k.1) ea tr .none s.heap
theorem xn{hp:Hp}{a:Addr}{o:O}(h:hp a=some o):upd hp a o=hp:=by
 funext b
 by_cases q:b=a
 ·subst q;rw[upd_same,h]
 ·rw[upd_ne q]
theorem lI{hp:Hp}{a:Addr}{o:O}(h:hp a=ac):del (upd hp a o) a=hp:=by
 funext b
 by_cases q:b=a
 ·subst q;rw[lT,h]
 ·rw[del_ne q,upd_ne q]
theorem um{own stk:Addr→Prop}{hp:Hp}{s:af}{a:Addr}{o:Obj}{vs:Array Value}{f:Array Value→Array Value}(ok:HeapOk P stk hp s)(ha:hp a=some .fld)(g:s.heap.get? a=some o)(hd:o.data= .fields vs):
 HeapOk P stk hp {s with heap:=s.heap.update a (cx f)}∧Ext own stk hp s hp {s with heap:=s.heap.update a (cx f)}∧(s.heap.update a (cx f)).get? a=some (o.mapFields f):=by
 have sb:bv a s.heap (s.heap.update a (cx f)):=bD ..
 have hd':=dH hd f
 have g':=bO (cx f) g (gM hd')
 have ok':=HeapOk.change (tk:=s.toks) (o:=.fld) ok ha sb ⟨_,_,g',hd'⟩
 have e':=Ext.change (own:=own) (tk:=s.toks) (o:=.fld) ok ha sb ⟨_,g'⟩
 rw[xn ha]at ok' e'
 exact⟨ok',e',g'⟩
theorem vx{A:ax}{stk:Addr→Prop}{s:af}{l:List Env}(fs:Fs A stk s)(hl:A.frames=some l):∀b∈l.filterMap (·.frame),stk b∧∃o,s.heap.get? b=some o∧ng o:=by
 obtain⟨l',hl',h⟩:=fs
 rw[hl]at hl';cases hl'
 intro b hb
 obtain⟨e,he,q⟩:=mi.mp hb
 obtain⟨_,L,o,hf,st,g,d⟩:=h e he
 rw[hf]at q;cases q
 exact⟨st,o,g,d⟩
theorem funFrames{h base:Heap}:∀{l:List Env},(∀e∈l,e.scope.kind= .function∧∃L o,e.frame=some L∧base.get? L=ac∧h.get? L=some o∧ng o)→h.FunFrames base l:=by
 intro xs_
 induction xs_ with
 |nil=>
  intro _
  exact trivial
 |cons e l ih=>
  intro k
  refine(k e ai).elim λhk r1_=>r1_.elim λL r2_=>r2_.elim λo r3_=>r3_.elim λhf r4_=>r4_.elim λhn r5_=>r5_.elim λg r6_=>r6_.elim λes r7_=>r7_.elim λn hd=>?_
  refine⟨(by rw[hk];intro z;cases z),⟨L,o,hf,hn,g,λvs z=>(by rw[hd]at z;cases z)⟩,ih λe he=>k e (am _ he)⟩
theorem qc{A:ax}{own stk:Addr→Prop}{hp:Hp}{s:af}{env0:Env}{outer:List Env}{L ea:Addr}{oe:Obj}{vs:Array Value}{head a0:Value}{hn:Bool}{Q:Unit→af→Prop}{E:Value→af→Prop}(fs:Fs A stk s)(hfr:A.frames=some (env0::outer))(hf:env0.frame=some L)
 (ok:HeapOk P stk (upd hp ea .fld) s)(hea:hp ea=ac)(g:s.heap.get? ea=some oe)(hd:oe.data= .fields vs)(h0:vs[0]?=some a0)(hz:1<vs.size)
 (k:∀T h',hp T=ac→Ext own stk (upd hp ea .fld) s (nY hp ea (some T)) {s with heap:=h'}→HeapOk P stk (nY hp ea (some T)) {s with heap:=h'}→ExcAt oe.cls ea (some T) (rawInt L) h'→Q () {s with heap:=h'}):
 wpAny P.M A (do let a←PySem.frameOf env0;let pl←entryPlaceOf L hn;let b←Fv head a .none (rawInt L) .none pl;setField (.ref ea) 1 b) Q E s:=by
 let S:List Addr:=ea::(env0::outer).filterMap (·.frame)
 have inS:=vx fs hfr
 have nstk:¬stk ea:=ok.apart ea (by rw[upd_same];intro z;cases z)
 have fr:s.heap.FunFrames (sL s.heap S) (env0::outer):=by
  obtain⟨l',hl',h⟩:=id fs
  rw[hfr]at hl';cases hl'
  exact funFrames λe he=>by
   refine(h e he).elim λhk r1_=>r1_.elim λL r2_=>r2_.elim λo r3_=>r3_.elim λhf r4_=>r4_.elim λst r5_=>r5_.elim λg d=>?_
   exact⟨hk,L,o,hf,qL (am _ (mi.mpr ⟨e,he,hf⟩)),g,d⟩
 refine wpAny_entryW (base:=sL s.heap S) hfr fr hf g tN (qL ai) hd hz h0 λh' hN=>?_
 obtain⟨st,_,⟨oe',vs',T,oT,ts,ge,⟨hc,h0'⟩,hd',h1,bT,hTe,gT,hdT,h3⟩,up⟩:=hN
 have out:∀b o,b∉S→s.heap.get? b=some o→h'.get? b=some o:=λb o hb g=>st b o (by rw[hide_out hb];exact g)
 have TS:T∉S:=λz=>by
  rcases ah.mp z with z|z
  ·exact hTe z
  ·refine(inS T z).elim λy r2_=>r2_.elim λo r3_=>r3_.elim λg r4_=>r4_.elim λes r5_=>r5_.elim λn hdd=>?_
   obtain⟨sl,g'⟩:=up T o g λvs z=>by rw[hdd]at z;cases z
   rw[gT]at g';cases g'
   rw[show({o with slots:=sl}:Obj).data=o.data from rfl,hdd]at hdT;cases hdT
 have nT:s.heap.get? T=ac:=by rw[←hide_out TS];exact bT
 have fT:=fz_of_new ok nT
 have hpT:hp T=ac:=by have:=fT.1;rwa[upd_ne hTe]at this
 have notS:∀b,¬stk b→b≠ea→b∉S:=λb h1 h2 z=>by
  rcases ah.mp z with z|z
  ·exact h2 z
  ·exact h1 (inS b z).1
 have hE':∀b,b≠ea→b≠T→nY hp ea (some T) b=hp b:=λb h1 h2=>by simp only[nY];rw[upd_ne h2,upd_ne h1]
 have ky:bB (Fz stk (upd hp ea .fld)) (Fz stk (nY hp ea (some T))) s.heap h':=by
  rintro a o ⟨f1,f2⟩ g
  have n1:a≠ea:=by rintro rfl;rw[upd_same]at f1;cases f1
  have n2:a≠T:=by rintro rfl;rw[nT]at g;cases g
  refine⟨⟨?_,f2⟩,out a o (notS a f2 n1) g⟩
  rw[hE' a n1 n2];rwa[upd_ne n1]at f1
 refine k T h' hpT ⟨λb o e n g=>?_,λb o g=>?_,λb o z g dd=>?_,λb e n=>?_,rfl,rfl⟩ ⟨λb o e=>?_,λb e z=>?_,λb o e=>?_,λb e=>?_,ok.stkn,λa z=>?_,ok.gens⟩ ⟨oe',vs',a0,ge,hc,hd',h0',(cD.mp h1).1,h1,hTe,oT,ts,gT,hdT,h3⟩
 ·have n1:b≠ea:=by rintro rfl;rw[upd_same]at e;cases e
  by_cases z:b∈S
  ·rcases ah.mp z with z|z
   ·exact absurd z n1
   ·refine(inS b z).elim λq1 r1_=>r1_.elim λo' r2_=>r2_.elim λg' d'=>?_
    rw[g]at g';cases g'
    obtain⟨sl,g2⟩:=up b o g λvs z=>by obtain⟨es,n,hdd⟩:=d';rw[hdd]at z;cases z
    exact .inr ⟨q1,d',sl,g2⟩
  ·exact .inl (out b o z g)
 ·by_cases n1:b=ea
  ·subst n1;exact⟨_,ge⟩
  ·by_cases z:b∈S
   ·rcases ah.mp z with z|z
    ·exact absurd z n1
    ·obtain⟨q1,o',g',d'⟩:=inS b z
     rw[g]at g';cases g'
     obtain⟨sl,g2⟩:=up b o g λvs z=>by obtain⟨es,n,hdd⟩:=d';rw[hdd]at z;cases z
     exact⟨_,g2⟩
   ·exact⟨o,out b o z g⟩
 ·obtain⟨sl,g2⟩:=up b o g λvs z=>by obtain⟨es,n,hdd⟩:=dd;rw[hdd]at z;cases z
  refine dd.elim λes r1_=>r1_.elim λn hdd=>?_
  exact⟨_,g2,es,n,hdd⟩
 ·have n1:b≠ea:=by rintro rfl;rw[upd_same]at e;cases e
  by_cases n2:b=T
  ·subst n2;exact nT
  ·rw[hE' b n1 n2]at n;rw[upd_ne n1]at e;exact absurd e n
 ·by_cases n2:b=T
  ·subst n2;simp only[nY,upd_same]at e;cases e;exact⟨oT,ts,gT,hdT⟩
  ·by_cases n1:b=ea
   ·subst n1;simp only[nY]at e;rw[upd_ne n2,upd_same]at e;cases e;exact⟨oe',vs',ge,hd'⟩
   ·rw[hE' b n1 n2]at e
    have e2:upd hp ea O.fld b=some o:=by rw[upd_ne n1];exact e
    exact(ok.obj b o e2).keep ky λo' g=>out b o' (notS b (ok.apart b (by rw[e2];intro z;cases z)) n1) g
 ·by_cases n2:b=T
  ·subst n2;exact fT.2 z
  ·by_cases n1:b=ea
   ·subst n1;exact nstk z
   ·rw[hE' b n1 n2]at e
    exact ok.apart b (by rw[upd_ne n1];exact e) z
 ·have n1:b≠ea:=by rintro rfl;rw[ok.new b (by rw[upd_same];intro z;cases z)]at e;cases e
  exact out b o (notS b (λz=>by rw[ok.stkn b z]at e;cases e) n1) (ok.base b o e)
 ·by_cases n2:b=T
  ·subst n2
   cases q:P.H₀.get? b with
   |none=>rfl
   |some o=>have:=ok.base b o q;rw[nT]at this;cases this
  ·by_cases n1:b=ea
   ·subst n1;exact ok.new b (by rw[upd_same];intro z;cases z)
   ·rw[hE' b n1 n2]at e
    exact ok.new b (by rw[upd_ne n1];exact e)
 ·obtain⟨o,g⟩:=ok.stkl a z
  by_cases q:a∈S
  ·rcases ah.mp q with q|q
   ·subst q;exact⟨_,ge⟩
   ·refine(inS a q).elim λq1 r1_=>r1_.elim λo' r2_=>r2_.elim λg' d'=>?_
    rw[g]at g';cases g'
    obtain⟨sl,g2⟩:=up a o g λvs z=>by obtain⟨es,n,hdd⟩:=d';rw[hdd]at z;cases z
    exact⟨_,g2⟩
  ·exact⟨o,out a o q g⟩
theorem frameOf_congr{env env0:Env}(h:env0.frame=env.frame):PySem.frameOf env=PySem.frameOf env0:=by unfold PySem.frameOf;rw[h]
theorem rM{A:ax}{own stk:Addr→Prop}{hp:Hp}{s:af}{env env0:Env}{outer:List Env}{ea:Addr}{tr:Option Addr}{cls:Value}{Q:Unit→af→Prop}{E:Value→af→Prop}(fs:Fs A stk s)(hfr:A.frames=some (env0::outer))(hf0:env0.frame=env.frame)
 (ok:HeapOk P stk (nY hp ea tr) s)(hea:hp ea=ac)(hT:∀T,tr=some T→hp T=ac)(x:ExcAt cls ea tr .none s.heap)
 (k:∀T L h',hp T=ac→Ext own stk (nY hp ea tr) s (nY hp ea (some T)) {s with heap:=h'}→HeapOk P stk (nY hp ea (some T)) {s with heap:=h'}→ExcAt cls ea (some T) (rawInt L) h'→Q () {s with heap:=h'}):
 wpAny P.M A (noteFrame (.ref ea) env) Q E s:=by
 obtain⟨L,hfL⟩:∃L,env0.frame=some L:=by
  obtain⟨l',hl',h⟩:=id fs
  rw[hfr]at hl';cases hl'
  refine(h env0 ai).elim λz r2_=>r2_.elim λL r3_=>r3_.elim λo r4_=>r4_.elim λhf z=>?_
  exact⟨L,hf⟩
 have hfe:env.frame=some L:=hf0▸hfL
 obtain⟨oe,vs,a0,g,hc,hd,h0,hz,x⟩:=x
 subst hc
 unfold noteFrame
 simp only[hfe]
 rw[frameOf_congr hf0]
 cases tr with
 |none=>
  refine wpAny_bind (bM g hd x ?_)
  rw[if_neg (by decide)]
  exact qc fs hfr hfL ok hea g hd h0 hz λT h' q1 q2 q3 q4=>k T L h' q1 q2 q3 q4
 |some T=>
  refine x.elim λh1 r1_=>r1_.elim λhTe r2_=>r2_.elim λoT r3_=>r3_.elim λts r4_=>r4_.elim λgT r5_=>r5_.elim λhdT h3=>?_
  have hpT:=hT T rfl
  refine wpAny_bind (bM g hd h1 ?_)
  rw[if_pos (show(dq T !=aM)=true from rfl)]
  refine wpAny_bind (bM gT hdT h3 ?_)
  rw[if_neg (show¬((aM==rawInt L)=true)from by simp[rawInt])]
  refine wpAny_bind (jH gT hdT (cD.mp h3).1 ?_)
  refine(um (own:=own) (f:=(·.setIfInBounds 3 aM)) ok (a:=T) (by simp[nY]) gT hdT).elim λok1 r1_=>r1_.elim λe1 z=>?_
  have g1:(s.heap.update T (cx (·.setIfInBounds 3 aM))).get? ea=some oe:=(sE _ _ hTe).trans g
  have ok2:=ok1.drop T
  have e2:=e1.trans (Ext.drop (own:=own) (stk:=stk) T)
  have hdel:del (nY hp ea (some T)) T=upd hp ea .fld:=by
   simp only[nY];exact lI (by rw[upd_ne hTe];exact hpT)
  rw[hdel]at ok2 e2
  exact qc (fs.step e1) hfr hfL ok2 hea g1 hd h0 hz λT' h' q1 q2 q3 q4=>k T' L h' q1 (e2.trans q2) q3 q4
theorem flightStep{A:ax}{own stk:Addr→Prop}{hp:Hp}{s:af}{ea T:Addr}{cls fl:Value}{Q:Unit→af→Prop}{E:Value→af→Prop}(ok:HeapOk P stk (nY hp ea (some T)) s)(x:ExcAt cls ea (some T) fl s.heap)
 (k:∀h',Ext own stk (nY hp ea (some T)) s (nY hp ea (some T)) {s with heap:=h'}→HeapOk P stk (nY hp ea (some T)) {s with heap:=h'}→ExcAt cls ea (some T) .none h'→Q () {s with heap:=h'}):
 wpAny P.M A (setFlight (.ref ea) ac) Q E s:=by
 refine x.elim λoe r1_=>r1_.elim λvs r2_=>r2_.elim λa0 r3_=>r3_.elim λg r4_=>r4_.elim λhc r5_=>r5_.elim λhd r6_=>r6_.elim λh0 r7_=>r7_.elim λhz r8_=>r8_.elim λh1 r9_=>r9_.elim λhTe r10_=>r10_.elim λoT r11_=>r11_.elim λts r12_=>r12_.elim λgT r13_=>r13_.elim λhdT h3=>?_
 have hz3:=(cD.mp h3).1
 unfold setFlight
 refine wpAny_bind (bM g hd h1 ?_)
 rw[if_pos (show(dq T !=aM)=true from rfl)]
 refine jH gT hdT hz3 ?_
 refine(um (own:=own) (f:=(·.setIfInBounds 3 aM)) ok (a:=T) (by simp[nY]) gT hdT).elim λok1 r1_=>r1_.elim λe1 g1=>?_
 exact k _ e1 ok1 ⟨oe,vs,a0,(sE _ _ hTe).trans g,hc,hd,h0,hz,h1,hTe,_,_,g1,dH hdT _,by simp[hz3]⟩
theorem vn{A:ax}{own stk:Addr→Prop}{ex:Nat→Value}{k:Nat×Hp}{hp:Hp}{s:af}{env env0:Env}{outer:List Env}{e:Value}{Q:Unit→af→Prop}{E:Value→af→Prop}(fs:Fs A stk s)(hfr:A.frames=some (env0::outer))(hf0:env0.frame=env.frame)
 (ok:HeapOk P stk hp s)(x:cj ex k e hp s)(q:∀hp' s',Ext own stk hp s hp' s'→HeapOk P stk hp' s'→cj ex k e hp' s'→Q () s'):wpAny P.M A (leaving env e) Q E s:=by
 obtain⟨ea,tr,rfl,hea,hT,rfl,x⟩:=x
 unfold leaving
 refine wpAny_bind (rM (own:=own) fs hfr hf0 ok hea hT x λT L h' q1 q2 q3 q4=>?_)
 refine flightStep (own:=own) q3 q4 λh2 p2 p3 p4=>?_
 exact q _ _ (q2.trans p2) p3 ⟨ea,some T,rfl,hea,λT' e=>by cases e;exact q1,rfl,p4⟩
end Mine
namespace Mine
variable{P:cH}{Fl:f9}{d:Nat}{sc:Scope}
theorem vO{kd:Str→Option NameKind}:∀{bs:List (Str×Value)}{m:Str→Option Value}{n:Str}{v:Value},(bs.map (·.1)).Nodup→(n,v)∈bs→kd n=some .local→bindL kd bs m n=some v:=by
 intro xs_
 induction xs_ with
 |nil=>
  intro _ _ _ _ h _
  exact(nomatch h)
 |cons e_ bs IH=>
  obtain⟨a,b⟩:=e_
  intro m n v hnd h hk
  rw[ao,aC]at hnd
  unfold bindL
  rcases ah.mp h with h'|h'
  ·refine(eP h').elim λq1 q2=>?_
   subst q1 q2
   rw[if_pos hk]
   have:∀(bs:List (Str×Value))(m:Str→Option Value),n∉bs.map (·.1)→bindL kd bs m n=m n:=by
    intro bs
    induction bs with
    |nil=>intro m _;rfl
    |cons x bs ih=>
     obtain⟨c,e⟩:=x
     intro m hm
     simp only[ao,ah,not_or]at hm
     unfold bindL
     rw[ih _ hm.2]
     split
     ·exact if_neg hm.1
     ·rfl
   rw[this bs _ hnd.1,if_pos rfl]
  ·exact IH hnd.2 h' hk
theorem vP{kd:Str→Option NameKind}:∀{bs:List (Str×Value)}{m:Str→Option Value}{n:Str}{v:Value},(bs.map (·.1)).Nodup→(n,v)∈bs→kd n≠some .local→bindC kd bs m n=some v:=by
 intro xs_
 induction xs_ with
 |nil=>
  intro _ _ _ _ h _
  exact(nomatch h)
 |cons e_ bs IH=>
  obtain⟨a,b⟩:=e_
  intro m n v hnd h hk
  rw[ao,aC]at hnd
  unfold bindC
  rcases ah.mp h with h'|h'
  ·refine(eP h').elim λq1 q2=>?_
   subst q1 q2
   rw[if_neg hk]
   have:∀(bs:List (Str×Value))(m:Str→Option Value),n∉bs.map (·.1)→bindC kd bs m n=m n:=by
    intro bs
    induction bs with
    |nil=>intro m _;rfl
    |cons x bs ih=>
     obtain⟨c,e⟩:=x
     intro m hm
     simp only[ao,ah,not_or]at hm
     unfold bindC
     rw[ih _ hm.2]
     split
     ·rfl
     ·exact if_neg hm.1
   rw[this bs _ hnd.1,if_pos rfl]
  ·exact IH hnd.2 h' hk
noncomputable def BR(P:cH)(F:Addr→Prop)(h:Heap):List (Nat×V)→List (Str×Value)→Prop
 | [],bs=>bs=[]
 |(i,v)::ps,bs=>∃x r,bs=(P.nm i,x)::r∧Mine.VR P.nm F h v x∧BR P F h ps r
theorem BRe:(∀(P:cH) F h bs,BR P F h [] bs=(bs=[]))∧∀(P:cH) F h i v ps bs,BR P F h ((i,v)::ps) bs=∃x r,bs=(P.nm i,x)::r∧Mine.VR P.nm F h v x∧BR P F h ps r:=⟨λz z z z=>rfl,λz z z z z z z=>rfl⟩
theorem BR.names{F:Addr→Prop}{h:Heap}:∀{ps:List (Nat×V)}{bs:List (Str×Value)},BR P F h ps bs→bs.map (·.1)=ps.map λp=>P.nm p.1:=by
 intro xs_
 induction xs_ with
 |nil=>
  intro bs r
  cases r;rfl
 |cons e_ ps ih=>
  obtain⟨i,v⟩:=e_
  intro bs r
  obtain⟨x,rr,rfl,_,q⟩:=r
  simp[ih q]
theorem BR.mem{F:Addr→Prop}{h:Heap}:∀{ps:List (Nat×V)}{bs:List (Str×Value)}{i:Nat}{v:V},BR P F h ps bs→(i,v)∈ps→∃x,(P.nm i,x)∈bs∧Mine.VR P.nm F h v x:=by
 intro xs_
 induction xs_ with
 |nil=>
  intro bs i v r h
  exact(nomatch h)
 |cons e_ ps ih=>
  obtain⟨j,u⟩:=e_
  intro bs i v r h
  obtain⟨x,rr,rfl,p,q⟩:=r
  rcases ah.mp h with h'|h'
  ·refine(eP h').elim λq1 q2=>?_;subst q1 q2;exact⟨x,ai,p⟩
  ·refine(ih q h').elim λy r1_=>r1_.elim λa b=>?_;exact⟨y,am _ a,b⟩
theorem BR.keep{F F':Addr→Prop}{h h':Heap}(k:bB F F' h h'):∀{ps:List (Nat×V)}{bs:List (Str×Value)},BR P F h ps bs→BR P F' h' ps bs:=by
 intro xs_
 induction xs_ with
 |nil=>
  intro bs r
  exact r
 |cons e_ ps ih=>
  obtain⟨i,v⟩:=e_
  intro bs r
  simp only[BRe]at r⊢
  refine r.elim λx r1_=>r1_.elim λrr r2_=>r2_.elim λe r3_=>r3_.elim λp q=>?_
  exact⟨x,rr,e,p.keep k,ih q⟩
noncomputable def locOf(ps:List (Nat×V)):aZ:=λi=>ps.lookup i
theorem km{α:Type}:∀{ps:List (Nat×α)}{i:Nat}{v:α},ps.lookup i=some v→(i,v)∈ps:=by
 intro xs_
 induction xs_ with
 |nil=>
  intros;simp_all
 |cons e_ ps ih=>
  obtain⟨j,u⟩:=e_
  intro i v h
  rw[dE]at h
  cases q:i==j with
  |true=>rw[q]at h;cases h;rw[show i=j by simpa using q];exact ai
  |false=>rw[q]at h;exact am _ (ih h)
noncomputable def BindOk(P:cH)(fd:FuncData)(bd:List V→Hp→Option (List (Nat×V))):Prop:=
 ∀(A:ax)(s:af)(hp:Hp)(stk:Addr→Prop)(vs:List V)(xs:List Value)(ps:List (Nat×V))(Q:List (Str×Value)→af→Prop)(E:Value→af→Prop),HeapOk P stk hp s→P.VRs stk hp s.heap vs xs→bd vs hp=some ps→
  (∀bs h',(∀b o,s.heap.get? b=some o→h'.get? b=some o)→BR P (Fz stk hp) h' ps bs→Q bs {s with heap:=h'})→wpAny P.M A (bindArgs fd ⟨xs,[]⟩) Q E s
structure lU(P:cH)(a:Addr)(fd:FuncData)(body:List Stmt):Prop where
 obj:∃o,P.H₀.get? a=some o∧o.data= .func fd
 code:P.H₀.CodeRec fd.code fd.qualname
 body:fd.body= .stmts body
 clo:fd.closure=[]
 glob:fd.globals=mainGlobals
 blt:fd.builtins=builtinsNs
 kind:fd.scope.kind= .function
 gen:fd.scope.isGenerator=false
 cor:fd.scope.isCoroutine=false
 nodup:(fd.scope.names.map (·.1)).Nodup
 nofree:∀n,(n,bJ)∉fd.scope.names
noncomputable def ik(bd:List V→Hp→Option (List (Nat×V)))(D:DS):DC:=λvs Q X hp=>∃ps,bd vs hp=some ps∧D (λw z hp'=>match w with| .ret v=>Q v hp'| .next=>Q .none hp'|_=>False) (λk z hp'=>X k hp') (locOf ps) hp
theorem zx{A:ax}{stk:Addr→Prop}{hp:Hp}{s s₁:af}{fd:FuncData}{a:Addr}{ps:List (Nat×V)}{bs:List (Str×Value)}{body:List Stmt}(F:lU P a fd body)(fs:Fs A stk s)(ok:HeapOk P stk hp s)(br:BR P (Fz stk hp) s.heap ps bs)(hids:∀p∈ps,fd.scope.names.lookup (P.nm p.1)=some .local∨fd.scope.names.lookup (P.nm p.1)=some .cell)(hpn:(ps.map λp=>P.nm p.1).Nodup)
 (x:InCallC s (callEnvC fd s.heap.objs.size a).locals (bindL (callEnvC fd s.heap.objs.size a).kindOf bs λw=>none) (callEnvC fd s.heap.objs.size a).cells (bindC (callEnvC fd s.heap.objs.size a).kindOf bs λw=>none) s₁):
 ∃stk':Addr→Prop,(∀a,stk a→stk' a)∧(∀b,gc (callEnvC fd s.heap.objs.size a) b→s.heap.get? b=ac)∧Ext no1 stk hp s hp s₁∧HeapOk P stk' hp s₁∧EnvOk P (A.deeper (callEnvC fd s.heap.objs.size a)) stk' hp (callEnvC fd s.heap.objs.size a) (locOf ps) s₁∧∀b,stk' b→stk b∨s.heap.get? b=ac:=by
 refine x.toInCall.same.elim λh' r1_=>r1_.elim λtk hs=>?_
 subst hs
 have keep:∀b o,s.heap.get? b=some o→h'.get? b=some o:=x.toInCall.keep
 let L:=s.heap.objs.size
 let cs:=cellsFrom (L+1) fd.scope.names []
 let N:Addr→Prop:=λb=>b=L∨∃n,cs.lookup n=some b
 have hlt:∀b,N b→L≤b:=by
  rintro b (rfl|⟨n,e⟩)
  ·exact bx _
  ·exact dx (x.above n b (mem_of_lookup e))
 have hn:∀b,N b→s.heap.get? b=ac:=λb z=>by
  cases g:s.heap.get? b with
  |none=>rfl
  |some o=>exact absurd (a8 g) (et.mpr (hlt b z))
 have hH:∀b,N b→∃o,h'.get? b=some o:=by
  rintro b (rfl|⟨n,e⟩)
  ·refine x.toInCall.ns.elim λo r1_=>r1_.elim λw r3_=>r3_.elim λw r5_=>r5_.elim λg w=>?_;exact⟨o,g⟩
  ·refine(x.cell n b e).elim λo r1_=>r1_.elim λg w=>?_;exact⟨o,g⟩
 obtain⟨okN,ky⟩:=wJ (tk:=tk) ok hn hH keep
 refine⟨_,λa z=>.inl z,λb z=>hn b z,Ext.grow (stk:=stk) keep,okN,?_,λb z=>z.imp id (hn b)⟩
 have br':=br.keep ky
 have hnd:(bs.map (·.1)).Nodup:=by rw[br.names];exact hpn
 have kd:∀n,(callEnvC fd s.heap.objs.size a).kindOf n=fd.scope.names.lookup n:=λn=>rfl
 refine⟨F.kind,F.glob,F.blt,⟨_,x.toInCall.ns,λi v h k=>?_⟩,λi v h k=>?_,.inr (.inl rfl),λn c e=>.inr (.inr ⟨n,e⟩),λn k=>?_,λn n' c e e'=>?_,λn e=>?_,?_,?_⟩
 ·refine(br'.mem (km h)).elim λy r1_=>r1_.elim λhm r=>?_
  exact⟨y,vO hnd hm k,r⟩
 ·refine(br'.mem (km h)).elim λy r1_=>r1_.elim λhm r=>?_
  have hk:fd.scope.names.lookup (P.nm i)=some .cell:=by
   rcases k with k|k
   ·exact k
   ·exact absurd (mem_of_lookup' k) (F.nofree _)
  refine(cellsFrom_bound fd.scope.names (L+1) [] (P.nm i) (mem_of_lookup' hk)).elim λc r1_=>r1_.elim λe r2_=>r2_.elim λw w=>?_
  have:=x.cell (P.nm i) c e
  rw[vP hnd hm (by rw[kd,hk];intro z;cases z)]at this
  exact⟨c,y,e,this,r⟩
 ·have hk:fd.scope.names.lookup n=some .cell:=by
   rcases k with k|k
   ·exact k
   ·exact absurd (mem_of_lookup' k) (F.nofree _)
  refine(cellsFrom_bound fd.scope.names (L+1) [] n (mem_of_lookup' hk)).elim λc r1_=>r1_.elim λe r2_=>r2_.elim λw w=>?_
  exact⟨c,_,e,x.cell n c e⟩
 ·exact name_of_addr x.apart (mem_of_lookup e) (mem_of_lookup e')
 ·exact absurd (x.above n _ (mem_of_lookup e)) (dC _)
 ·refine fs.elim λl r1_=>r1_.elim λhl h=>?_
  refine⟨callEnvC fd s.heap.objs.size a::l,by show A.frames.map _=_;rw[hl];rfl,λe he=>?_⟩
  rcases ah.mp he with rfl|he
  ·refine x.toInCall.ns.elim λo r1_=>r1_.elim λes r2_=>r2_.elim λep r3_=>r3_.elim λg r4_=>r4_.elim λdd w=>?_
   exact⟨F.kind,L,o,rfl,.inr (.inl rfl),g,es,ep,dd⟩
  ·refine(h e he).elim λhk r1_=>r1_.elim λL' r2_=>r2_.elim λo r3_=>r3_.elim λhf r4_=>r4_.elim λst r5_=>r5_.elim λg dd=>?_
   exact⟨hk,L',o,hf,.inl st,keep _ _ g,dd⟩
 ·refine fs.elim λl r1_=>r1_.elim λhl h=>?_
  exact⟨_,l,by show A.frames.map _=_;rw[hl];rfl,rfl⟩
theorem dY.deep{A:ax}{env:Env}(r:dY (d+1) A):dY d (A.deeper env):=⟨by have:=r.depth;show A.depth+1+d<_;lia,by have:=r.units;show A.units+3+8*d+128<_;lia,λz=>r.hd (kf _)⟩
theorem dY.in1{A:ax}(r:dY d A):A.depth<recursionLimit:=by have:=r.depth;lia
noncomputable def OkK(P:cH)(Fl:f9)(d:Nat)(f:Value)(Dc:DC):Prop:=
 ∀(A:ax)(s:af)(Q:V→Hp→Prop)(X:XA)(hp:Hp)(stk:Addr→Prop)(vs:List V)(xs:List Value),dY d A→Fs A stk s→HeapOk P stk hp s→P.VRs stk hp s.heap vs xs→Dc vs Q X hp→
  codeAny P.M A (.call f ⟨xs,[]⟩) (λr s'=>match r with| .ok (.ret y)=>PostT P no1 stk hp s (PV P stk Q) y s'| .ok _=>False| .error e=>PostT P no1 stk hp s (lX Fl X) e s') s
theorem OkK.c{f:Value}{Dc:DC}(h:OkK P Fl d f Dc):OkC P Fl d f Dc:=λA s Q X hp stk vs xs rm fs ok r hD=>wpAny_call (h A s Q X hp stk vs xs rm fs ok r hD)
theorem OkK.up{f:Value}{Dc:DC}{d':Nat}(h:OkK P Fl d f Dc)(hd:d≤d'):OkK P Fl d' f Dc:=λA s Q X hp stk vs xs rm=>h A s Q X hp stk vs xs (rm.less hd)
theorem OkK.fun{mg mb:Str→Option Value}(tp:dG P mg mb){a:Addr}{fd:FuncData}{body:List Stmt}{bd:List V→Hp→Option (List (Nat×V))}{D:DS}(F:lU P a fd body)(hb:BindOk P fd bd)
 (hids:∀vs hp ps,bd vs hp=some ps→(∀p∈ps,fd.scope.names.lookup (P.nm p.1)=some .local∨fd.scope.names.lookup (P.nm p.1)=some .cell)∧(ps.map λp=>P.nm p.1).Nodup)
 {ex:Nat→Value}(h:SimSs P (cj ex) d fd.scope body D):OkK P (cj ex) (d+1) (.ref a) (ik bd D):=by
 intro A s Q X hp stk vs xs rm fs ok r i1_;refine i1_.elim λps r2_=>r2_.elim λhps hD=>?_
 refine F.obj.elim λo r1_=>r1_.elim λho hdat=>?_
 refine(codeAny_call_function rm.in1 (ok.base _ _ ho) hdat F.cor F.gen F.body (F.code.keeps ok.base) ?_)
 refine hb _ s hp stk vs xs ps _ _ ok r hps λbs h1 kp br=>?_
 have ok1:HeapOk P stk hp {s with heap:=h1}:=ok.grow (tk:=s.toks) kp
 have e1:Ext no1 stk hp s hp {s with heap:=h1}:=Ext.grow (stk:=stk) (tk:=s.toks) kp
 obtain⟨hi,hpn⟩:=hids vs hp ps hps
 rw[F.clo]
 refine wpAny_newFunctionEnv_cells F.kind (λy hy=>?_) λenv he s' x=>?_
 ·have:y.1∈bs.map (·.1):=an.mpr ⟨y,hy,rfl⟩
  rw[br.names]at this
  obtain⟨p,hp',e⟩:=an.mp this
  rw[←e]
  rcases hi p hp' with q|q
  ·exact .inl q
  ·refine(cellsFrom_bound fd.scope.names (h1.objs.size+1) [] (P.nm p.1) (mem_of_lookup' q)).elim λc r1_=>r1_.elim λe2 r2_=>r2_.elim λu u=>?_
   exact .inr ⟨q,by rw[show({s with heap:=h1}:af).heap.objs.size=h1.objs.size from rfl,e2];rfl⟩
 ·subst he
  have x':InCallC {s with heap:=h1} (callEnvC fd h1.objs.size a).locals (bindL (callEnvC fd h1.objs.size a).kindOf bs λu=>none) (callEnvC fd h1.objs.size a).cells (bindC (callEnvC fd h1.objs.size a).kindOf bs λu=>none) s':=x
  refine(zx F (fs.step e1) ok1 br hi hpn x').elim λstk' r1_=>r1_.elim λsub r2_=>r2_.elim λfresh r3_=>r3_.elim λe2 r4_=>r4_.elim λok2 r5_=>r5_.elim λev2 hst=>?_
  refine⟨(tp.lim.keeps ok2.base),codeAny_func ?_⟩
  have e2':Ext (gc (callEnvC fd h1.objs.size a)) stk' hp {s with heap:=h1} hp s':=e2.of1.more sub hst
  refine wpAny_mono (h _ (callEnvC fd h1.objs.size a) s' _ _ (locOf ps) hp stk' rm.deep rfl ev2 ok2 hD) (λf s3 hq=>?_) λe s3 hq=>?_
  rotate_left
  ·obtain⟨hp3,e3,ok3,k,l,ev3,hx,hf⟩:=hq
   refine ev3.top.elim λe0 r1_=>r1_.elim λr0 r2_=>r2_.elim λhfr hf0=>?_
   refine vn (own:=gc (callEnvC fd h1.objs.size a)) ev3.frs hfr hf0 ok3 hf λhp4 s4 e4 ok4 hf4=>?_
   exact⟨hp4,e1.trans (Ext.to1 ((e2'.trans e3).trans e4) fresh hst sub),ok4.sub sub,k,hx,hf4⟩
  obtain⟨hp3,e3,ok3,w,loc3,ev3,q3,r3⟩:=hq
  have eF:Ext no1 stk hp s hp3 s3:=e1.trans (Ext.to1 (e2'.trans e3) fresh hst sub)
  have okF:=ok3.sub sub
  have back:∀v y,P.VR stk' hp3 s3.heap v y→P.VR stk hp3 s3.heap v y:=λv y r=>r.keep λa o f g=>⟨⟨f.1,λz=>f.2 (sub a z)⟩,g⟩
  cases w<;>cases f<;>first|exact r3.elim|exact q3.elim|skip
  ·exact⟨hp3,eF,okF,.none,q3,vNone⟩
  ·exact⟨hp3,eF,okF,_,q3,back _ _ r3⟩
noncomputable def bdPos(ids:List Nat):List V→Hp→Option (List (Nat×V)):=λvs z=>if vs.length=ids.length then some (ids.zip vs)else ac
theorem BindOk.pos{fd:FuncData}{ids:List Nat}(hb:∀xs:List Value,xs.length=ids.length→bindArgs fd ⟨xs,[]⟩=pure ((ids.map P.nm).zip xs)):BindOk P fd (bdPos ids):=by
 intro A s hp stk vs xs ps Q E ok r h q
 unfold bdPos at h
 split at h
 ·rename_i hl
  cases h
  have hx:=r.length
  rw[hb xs (by lia)]
  refine wpAny_pure (q _ s.heap (λ_ _ e=>e) ?_)
  clear hb q
  induction ids generalizing vs xs with
  |nil=>simp[BRe]
  |cons i ids ih=>
   cases vs with
   |nil=>simp at hl
   |cons v vs=>
    obtain⟨y,ys,rfl,p,q⟩:=r
    dsimp only[List.zip_cons_cons,ao,BRe]
    exact⟨y,_,rfl,p,ih vs ys q (by simpa using hl) (by simpa using hx)⟩
 ·cases h
end Mine
namespace Mine
variable{P:cH}{Fl:f9}{d:Nat}{sc:Scope}
noncomputable def d0(vs:List V)(k:Int):Option V:=if 0≤k then vs[k.toNat]? else if -(vs.length:Int)≤k then vs[(k+vs.length).toNat]? else ac
noncomputable def eAt(es:List (Int×V))(k:Int):Option V:=(es.find? λe=>e.1=k).map (·.2)
noncomputable def je(es:List (Int×V))(k:Int)(v:V):List (Int×V):=if es.any (λe=>decide (e.1=k))then es.map (λe=>if e.1=k then(e.1,v)else e)else es++[(k,v)]
noncomputable def eDel(es:List (Int×V))(k:Int):List (Int×V):=es.filter λe=>decide (e.1≠k)
theorem ER.at{F:Addr→Prop}{h:Heap}{k:Int}:∀{es:List (Int×V)}{kvs:List (Int×Value)}{v:V},ER P.nm F h es kvs→eAt es k=some v→∃y,valueAt kvs k=some y∧Mine.VR P.nm F h v y:=by
 intro xs_
 induction xs_ with
 |nil=>
  intro kvs v r e
  cases e
 |cons e_ es ih=>
  obtain⟨i,u⟩:=e_
  intro kvs v r e
  obtain⟨y,ys,rfl,p,q⟩:=r
  unfold eAt at e
  unfold valueAt
  by_cases hk:i=k
  ·simp only[dO,hk,decide_true,bW]at e⊢
   cases e
   exact⟨y,rfl,p⟩
  ·simp only[dO,hk,decide_false]at e⊢
   exact ih q e
theorem ER.none{F:Addr→Prop}{h:Heap}{k:Int}:∀{es:List (Int×V)}{kvs:List (Int×Value)},ER P.nm F h es kvs→eAt es k=ac→valueAt kvs k=ac:=by
 intro xs_
 induction xs_ with
 |nil=>
  intro kvs r e
  cases r;rfl
 |cons e_ es ih=>
  obtain⟨i,u⟩:=e_
  intro kvs r e
  refine r.elim λy r1_=>r1_.elim λys r2_=>r2_.elim λe3_ r4_=>r4_.elim λp q=>?_;subst e3_
  unfold eAt at e
  unfold valueAt
  by_cases hk:i=k
  ·simp[dO,hk]at e
  ·simp only[dO,hk,decide_false]at e⊢
   exact ih q e
theorem ER.length{F:Addr→Prop}{h:Heap}:∀{es:List (Int×V)}{kvs:List (Int×Value)},ER P.nm F h es kvs→kvs.length=es.length:=by
 intro xs_
 induction xs_ with
 |nil=>
  intro kvs r
  cases r;rfl
 |cons e_ es ih=>
  obtain⟨i,u⟩:=e_
  intro kvs r
  obtain⟨y,ys,rfl,p,q⟩:=r
  simp[ih q]
theorem ER.any{F:Addr→Prop}{h:Heap}{k:Int}:∀{es:List (Int×V)}{kvs:List (Int×Value)},ER P.nm F h es kvs→kvs.any (λkv=>kv.1=k)=es.any (λe=>decide (e.1=k)):=by
 intro xs_
 induction xs_ with
 |nil=>
  intro kvs r
  cases r;rfl
 |cons e_ es ih=>
  obtain⟨i,u⟩:=e_
  intro kvs r
  obtain⟨y,ys,rfl,p,q⟩:=r
  simp[ih q]
theorem ER.append{F:Addr→Prop}{h:Heap}{k:Int}{v:V}{y:Value}(hv:Mine.VR P.nm F h v y):∀{es:List (Int×V)}{kvs:List (Int×Value)},ER P.nm F h es kvs→ER P.nm F h (es++[(k,v)]) (kvs++[(k,y)]):=by
 intro xs_
 induction xs_ with
 |nil=>
  intro kvs r
  cases r;dsimp only[aX,ERe];exact⟨y,[],rfl,hv,rfl⟩
 |cons e_ es ih=>
  obtain⟨i,u⟩:=e_
  intro kvs r
  obtain⟨z,ys,rfl,p,q⟩:=r
  dsimp only[cM,ERe]
  exact⟨z,_,rfl,p,ih q⟩
theorem ER.map{F:Addr→Prop}{h:Heap}{k:Int}{v:V}{y:Value}(hv:Mine.VR P.nm F h v y):∀{es:List (Int×V)}{kvs:List (Int×Value)},ER P.nm F h es kvs→ER P.nm F h (es.map (λe=>if e.1=k then(e.1,v)else e)) (kvs.map (λkv=>if kv.1=k then(kv.1,y)else kv)):=by
 intro xs_
 induction xs_ with
 |nil=>
  intro kvs r
  cases r;simp only[gj,ERe]
 |cons e_ es ih=>
  obtain⟨i,u⟩:=e_
  intro kvs r
  obtain⟨z,ys,rfl,p,q⟩:=r
  simp only[ao]
  by_cases hk:i=k
  ·simp only[hk,if_true,ERe]
   exact⟨y,_,rfl,hv,ih q⟩
  ·simp only[hk,if_false,ERe]
   exact⟨z,_,rfl,p,ih q⟩
theorem ER.set{F:Addr→Prop}{h:Heap}{k:Int}{v:V}{y:Value}(hv:Mine.VR P.nm F h v y){es:List (Int×V)}{kvs:List (Int×Value)}(r:ER P.nm F h es kvs):ER P.nm F h (je es k v) (stored kvs k y):=by
 delta je stored
 rw[r.any]
 split
 ·exact r.map hv
 ·exact r.append hv
theorem ER.del{F:Addr→Prop}{h:Heap}{k:Int}:∀{es:List (Int×V)}{kvs:List (Int×Value)},ER P.nm F h es kvs→ER P.nm F h (eDel es k) (without kvs k)
 | [],kvs,r=>by cases r;simp only[eDel,without,zW,ERe]
 |(i,u)::es,kvs,r=>by
  obtain⟨z,ys,rfl,p,q⟩:=r
  have ih:=ER.del (k:=k) q
  unfold eDel without at ih⊢
  by_cases hk:i=k
  ·simp only[aQ,hk,ne_eq,not_true_eq_false,decide_false]
   simpa using ih
  ·simp only[aQ,hk,ne_eq,not_false_eq_true,decide_true,if_true,ERe]
   exact⟨z,_,rfl,p,ih⟩
noncomputable def dJ:B2:=λo i Q hp=>∃k,i= .int k∧match o with
 | .tup vs=>vs.length≤lim∧∃v,d0 vs k=some v∧Q v hp
 | .ref a=>match hp a with
   |some (.dict es _)=>∃v,eAt es k=some v∧Q v hp
   |some (.lst vs)=>vs.length≤lim∧∃v,d0 vs k=some v∧Q v hp
   |_=>False
 | .lst vs=>vs.length≤lim∧∃v,d0 vs k=some v∧Q v hp
 |_=>False
theorem VRs.item{F:Addr→Prop}{h:Heap}{vs:List V}{xs:Array Value}{k:Int}{v:V}(r:VRs P.nm F h vs xs.toList)(e:d0 vs k=some v):
 ∃y,Mine.VR P.nm F h v y∧((0≤k∧k<vs.length∧xs[k.toNat]?=some y)∨(k<0∧ -(xs.size:Int)≤k∧xs[(k+xs.size).toNat]?=some y)):=by
 have hl:=r.length
 have hz:xs.size=vs.length:=by rw[←hl];simp
 unfold d0 at e
 split at e
 ·rename_i h0
  refine(r.get e).elim λy r1_=>r1_.elim λe' p=>?_
  have:=(dL.mp e).1
  exact⟨y,p,.inl ⟨h0,by omega,by simpa using e'⟩⟩
 ·split at e
  ·rename_i h0 h1
   refine(r.get e).elim λy r1_=>r1_.elim λe' p=>?_
   exact⟨y,p,.inr ⟨by omega,by rw[hz];exact h1,by rw[hz];simpa using e'⟩⟩
  ·cases e
theorem getItem_listI{A:ax}{s:af}{a:Addr}{xs:Array Value}{k:Int}{t:Tok}{y:Value}{n:Nat}{Q:Value→af→Prop}{E:Value→af→Prop}(hl:s.heap.PlainList a xs)(hn:xs.size≤lim)
 (h:(0≤k∧k<n∧xs[k.toNat]?=some y)∨(k<0∧ -(xs.size:Int)≤k∧xs[(k+xs.size).toNat]?=some y))(hq:Q y s):wpAny P.M A (getItem (.ref a) (.int k t)) Q E s:=by
 unfold lim at hn
 rcases h with⟨h0,_,h1⟩|⟨h0,h1,h2⟩
 ·have:k.toNat<xs.size:=(cD.mp h1).1
  exact wpAny_getItem_list hl.isList h0 (by omega) h1 hq
 ·exact wpAny_getItem_list_neg hl.isList h0 h1 (by omega) h2 hq
theorem qX{A:ax}{s:af}{a:Addr}{xs:Array Value}{k:Int}{t:Tok}{y:Value}{n:Nat}{Q:Value→af→Prop}{E:Value→af→Prop}(hl:uZ s.heap a xs)(hn:xs.size≤lim)
 (h:(0≤k∧k<n∧xs[k.toNat]?=some y)∨(k<0∧ -(xs.size:Int)≤k∧xs[(k+xs.size).toNat]?=some y))(hq:Q y s):wpAny P.M A (getItem (.ref a) (.int k t)) Q E s:=by
 unfold lim at hn
 refine hl.elim λn g=>?_
 rcases h with⟨h0,_,h1⟩|⟨h0,h1,h2⟩
 ·have:k.toNat<xs.size:=(cD.mp h1).1
  exact Fe ⟨_,g,rfl,_,rfl⟩ (by omega) (by omega) (seqIndex_of h0 (by omega)) h1 hq
 ·exact Fe ⟨_,g,rfl,_,rfl⟩ (by omega) (by omega) (seqIndex_neg h0 h1) h2 hq
theorem vw{A:ax}{s:af}{hp:Hp}{stk:Addr→Prop}{v u:V}{x y:Value}{Q:V→Hp→Prop}{X:XA}{value slice:Expr}(ok:HeapOk P stk hp s)(rv:P.VR stk hp s.heap v x)(ru:P.VR stk hp s.heap u y)(h:dJ v u Q hp)
 (hs:∀o i,∃ops,subscripted slice false o i=operate ops (getItem o i)):T P no1 stk A (subscriptTail value slice x y) hp s (PV P stk Q) (lX Fl X):=by
 obtain⟨k,rfl,h⟩:=h
 obtain⟨t,rfl⟩:=ru
 have lists:∀vs,bL hp v=some vs→(vs.length≤lim∧∃v,d0 vs k=some v∧Q v hp)→T P no1 stk A (subscriptTail value slice x (.int k t)) hp s (PV P stk Q) (lX Fl X):=by
  rintro vs hv ⟨hl,u,hu,q⟩
  obtain⟨a,xs,rfl,p,r⟩:=aU ok rv hv
  refine(r.item hu).elim λy r1_=>r1_.elim λry hy=>?_
  refine(hs (.ref a) (.int k t)).elim λops hs=>?_
  refine yP p.isList.typeIs BM.lookup (getItem_listI p ?_ hy (here ok q ry)) hs
  have:=r.length;have h2:xs.size=xs.toList.length:=rfl
  omega
 cases v with
 |lst vs=>exact lists vs rfl h
 |tup vs=>
  obtain⟨hl,u,hu,q⟩:=h
  obtain⟨a,xs,rfl,_,p,r⟩:=rv
  refine(r.item hu).elim λy r1_=>r1_.elim λry hy=>?_
  refine(hs (.ref a) (.int k t)).elim λops hs=>?_
  refine(id p).elim λn g=>?_
  refine yP (T:= "tuple") ⟨_,g,rfl⟩ slot_tuple_getitem.lookup (qX p ?_ hy (here ok q ry)) hs
  have:=r.length;have h2:xs.size=xs.toList.length:=rfl
  omega
 |ref a=>
  change (match hp a with|some (.dict es _)=>∃v,eAt es k=some v∧Q v hp|some (.lst vs)=>vs.length≤lim∧∃v,d0 vs k=some v∧Q v hp|_=>False)at h
  cases o:hp a with
  |none=>rw[o]at h;exact h.elim
  |some ob=>
   rw[o]at h
   cases ob with
   |lst vs=>exact lists vs (listOf_ref o) h
   |dict es ep=>
    refine h.elim λu r1_=>r1_.elim λhu q=>?_
    cases rv
    refine(ok.obj a _ o).elim λkvs r1_=>r1_.elim λhd er=>?_
    replace hd:=hd.dictOf
    obtain⟨y,hy,ry⟩:=er.at hu
    refine(hs (.ref a) (.int k t)).elim λops hs=>?_
    exact yP hd.mapOf.typeIs slot_dict_getitem.lookup (wpAny_getItem_of (jA _ _ _ _) hd.mapOf hy (fV ok q ry)) hs
   |_=>exact h.elim
 |_=>exact h.elim
theorem Sim.item{value slice:Expr}{pos:Pos}{dv di:DE}(hv:bz P Fl d sc value dv)(hi:bz P Fl d sc slice di)(hs:∀o i,∃ops,subscripted slice false o i=operate ops (getItem o i)):bz P Fl d sc (.Subscript value slice pos) (bK dJ dv di):=by
 intro A env s Q X loc hp stk rm hs' ev ok h
 refine Subscript_ ?_
 refine(hv A env s _ X loc hp stk rm hs' ev ok h).thn λa hp1 s1 e1 ok1 hq=>?_
 obtain⟨v,q1,r1⟩:=hq
 refine wpAny_mono (hi A env s1 _ X loc hp1 stk rm hs' (ev.step ok e1) ok1 q1) (λy s2 hq=>?_) λx x z=>z.back P e1
 obtain⟨hp2,e2,ok2,u,q2,r2⟩:=hq
 exact T.nxt (e1.trans e2) (vw ok2 (d5 e2 r1) r2 q2 hs)
noncomputable def SimO(P:cH)(Fl:f9)(d:Nat)(sc:Scope)(e:Option Expr)(D:DE):Prop:=
 ∀(A:ax)(env:Env)(s:af)(Q:V→Hp→Prop)(X:XA)(loc:aZ)(hp:Hp)(stk:Addr→Prop),
  dY d A→env.scope=sc→EnvOk P A stk hp env loc s→HeapOk P stk hp s→D Q X loc hp→
  T P no1 stk A (evalPart e env) hp s (PV P stk Q) (lX Fl X)
theorem SimO.some{e:Expr}{D:DE}(h:bz P Fl d sc e D):SimO P Fl d sc (some e) D:=h
theorem SimO.none:SimO P Fl d sc ac (aJ .none):=λA env s Q X loc hp stk rm hs ev ok hD=>wpAny_pure (here ok hD vNone)
noncomputable def i4:V→Option (Option Int)
 | .none=>some ac
 | .int i=>some (some i)
 |_=>ac
noncomputable def pw(vs:List V)(lo hi st:Option Int):List V:=let (a,b,c):=sliceBounds lo hi st vs.length;(sliceRange a b c).filterMap (vs[·]?)
theorem VRs.cut{F:Addr→Prop}{h:Heap}{vs:List V}{xs:Array Value}{lo hi st:Option Int}(r:VRs P.nm F h vs xs.toList):VRs P.nm F h (pw vs lo hi st) (slicePick xs lo hi st).toList:=by
 have hl:=r.length
 have hz:xs.size=vs.length:=by rw[←hl];simp
 delta pw slicePick
 rw[hz]
 simp only[]
 generalize sliceRange _ _ _=is
 induction is with
 |nil=>simp[VRse]
 |cons i is ih=>
  cases hv:vs[i]? with
  |none=>
   have:xs[i]?=ac:=by
    rw[pP,hz];exact jd.mp hv
   simp only[lB,hv,this]
   exact ih
  |some v=>
   refine(r.get hv).elim λy r1_=>r1_.elim λe p=>?_
   have e':xs[i]?=some y:=by simpa using e
   simp only[lB,hv,e',VRse]
   exact⟨y,_,rfl,p,ih⟩
noncomputable def yO(o l u st:V)(Q:V→Hp→Prop)(hp:Hp):Prop:=∃vs lo hi k,bL hp o=some vs∧vs.length≤lim∧i4 l=some lo∧i4 u=some hi∧i4 st=some k∧k≠some 0∧Q (.lst (pw vs lo hi k)) hp
noncomputable def wj(o l u st:DE):DE:=λQ X loc hp=>o (λov hp1=>l (λlv hp2=>u (λuv hp3=>st (λkv hp4=>yO ov lv uv kv Q hp4) X loc hp3) X loc hp2) X loc hp1) X loc hp
theorem mL{F:Addr→Prop}{h:Heap}{v:V}{x:Value}{o:Option Int}(r:Mine.VR P.nm F h v x)(e:i4 v=some o):IsPart x o:=by
 cases v<;>first|(cases e;done)|skip
 ·cases r;cases e;exact .none
 ·obtain⟨t,rfl⟩:=r;cases e;exact .int _ _
theorem Sim.cut{value:Expr}{lo hi st:Option Expr}{p pos:Pos}{dv dl du dk:DE}(hv:bz P Fl d sc value dv)(hl:SimO P Fl d sc lo dl)(hu:SimO P Fl d sc hi du)(hk:SimO P Fl d sc st dk)
 (hs:∀o i,∃ops,subscripted (.Slice lo hi st p) false o i=operate ops (getItem o i)):bz P Fl d sc (.Subscript value (.Slice lo hi st p) pos) (wj dv dl du dk):=by
 intro A env s Q X loc hp stk rm hs' ev ok h
 refine Subscript_ ?_
 refine(hv A env s _ X loc hp stk rm hs' ev ok h).thn λx hp1 s1 e1 ok1 hq=>?_
 obtain⟨v,q1,r1⟩:=hq
 refine wpAny_Slice ?_
 refine wpAny_mono (hl A env s1 _ X loc hp1 stk rm hs' (ev.step ok e1) ok1 q1) (λyl s2 hq=>?_) λy y z=>z.back P e1
 obtain⟨hp2,e2,ok2,vl,q2,r2⟩:=hq
 have e12:=e1.trans e2
 refine wpAny_mono (hu A env s2 _ X loc hp2 stk rm hs' (ev.step ok e12) ok2 q2) (λyu s3 hq=>?_) λy y z=>z.back P e12
 obtain⟨hp3,e3,ok3,vu,q3,r3⟩:=hq
 have e13:=e12.trans e3
 refine wpAny_mono (hk A env s3 _ X loc hp3 stk rm hs' (ev.step ok e13) ok3 q3) (λyk s4 hq=>?_) λy y z=>z.back P e13
 obtain⟨hp4,e4,ok4,vk,⟨vs,lo',hi',k',h1,hn,h2,h3,h4,h0,q4⟩,r4⟩:=hq
 have e14:=e13.trans e4
 have pl:=mL r2 h2
 have pu:=mL r3 h3
 have pk:=mL r4 h4
 obtain⟨a,xs,rfl,pp,rr⟩:=aU ok4 (d5 (e2.trans (e3.trans e4)) r1) h1
 let sl:Obj:={cls:=.type "slice",data:=.fields #[yl,yu,yk]}
 have g5:∀b o,s4.heap.get? b=some o→(s4.heap.push sl).get? b=some o:=λb o e=>aj _ e
 have ok5:HeapOk P stk hp4 {s4 with heap:=s4.heap.push sl}:=ok4.grow (tk:=s4.toks) g5
 have e5:Ext no1 stk hp4 s4 hp4 {s4 with heap:=s4.heap.push sl}:=Ext.grow (stk:=stk) (tk:=s4.toks) g5
 obtain⟨ops,hs⟩:=hs (.ref a) (.ref s4.heap.objs.size)
 have pp':=pp.at (h':=s4.heap.push sl) λo g=>g5 _ _ g
 refine yP (EU (s:={s4 with heap:=s4.heap.push sl}) pp'.isList) BM.lookup (wpAny_getItem_list_slice pp'.isList (B1 ..) pl pu pk h0 ?_ ?_) hs
 ·exact(jh (tk:=s4.toks) ok5 (gG g5 rr.cut) q4).back P (e14.trans e5)
 ·have:=rr.length;have h2:xs.size=xs.toList.length:=rfl
  have:=dZ
  omega
end Mine
namespace Mine
variable{P:cH}{Fl:f9}{d:Nat}{sc:Scope}{ex:Nat→Value}
theorem EnvOk.around{A A':ax}{stk:Addr→Prop}{hp:Hp}{env:Env}{loc:aZ}{s:af}(ev:EnvOk P A stk hp env loc s)(h:A'.frames=A.frames):EnvOk P A' stk hp env loc s:=
 ⟨ev.kind,ev.glob,ev.blt,ev.ns,ev.cell,ev.stkL,ev.stkC,ev.cells,ev.apart,ev.apartL,ev.frs.around h,(by obtain⟨e0,r,a,b⟩:=ev.top;exact⟨e0,r,h.trans a,b⟩)⟩
noncomputable def NameIs(P:cH)(sc:Scope)(e:Expr)(c:Value):Prop:=
 ∀(A:ax)(env:Env)(s:af)(loc:aZ)(hp:Hp)(stk:Addr→Prop)(Q:Value→af→Prop)(E:Value→af→Prop),env.scope=sc→EnvOk P A stk hp env loc s→HeapOk P stk hp s→Q c s→wpAny P.M A (eval e env) Q E s
theorem NameIs.glob{mg mb:Str→Option Value}(tp:dG P mg mb){x:Str}{pos:Pos}{v:Value}(hk:sc.names.lookup x=some .globalImplicit)(hd:(x==("__debug__" :Str))=false)(hv:mg x=some v):NameIs P sc (.Name x pos) v:=by
 intro A env s loc hp stk Q E hs ev ok hq
 refine wpAny_Name ?_ hd
 have hkind:env.kindOf x=some .globalImplicit:=by rw[←hk,←hs];rfl
 rw[kc ev.kind hkind]
 refine pA (mg:=mg) ?_ hv hq
 rw[ev.glob];exact tp.g.keeps ok.base
theorem NameIs.built{mg mb:Str→Option Value}(tp:dG P mg mb){x:Str}{pos:Pos}{v:Value}(hk:sc.names.lookup x=some .globalImplicit)(hd:(x==("__debug__" :Str))=false)(hm:mg x=ac)(hv:mb x=some v):NameIs P sc (.Name x pos) v:=by
 intro A env s loc hp stk Q E hs ev ok hq
 refine wpAny_Name ?_ hd
 have hkind:env.kindOf x=some .globalImplicit:=by rw[←hk,←hs];rfl
 rw[kc ev.kind hkind]
 refine By (mg:=mg) (mb:=mb) ?_ hm ?_ hv hq
 ·rw[ev.glob];exact tp.g.keeps ok.base
 ·rw[ev.blt];exact tp.b.keeps ok.base
noncomputable def B7(P:cH)(cls c:Value):Prop:=
 ∀(A:ax)(s:af)(ea:Addr)(tr:Option Addr)(fl:Value)(Q:Bool→af→Prop)(E:Value→af→Prop),(∀b o,P.H₀.get? b=some o→s.heap.get? b=some o)→ExcAt cls ea tr fl s.heap→Q true s→wpAny P.M A (excMatches (.ref ea) c) Q E s
theorem B7.built{X T:String}(hexc:isSubtype (.type T) (.type "BaseException")=pure true)(hnt:isSubtype (.type ((F7 T).elim "type" λx=>x.metatype)) (.type "tuple")=pure false)(hsub:isSubtype (.type X) (.type T)=pure true):B7 P (.type X) (.type T):=by
 intro A s ea tr fl Q E hb x q
 obtain⟨oe,vs,a0,g,hc,_⟩:=x
 exact wpAny_excMatches_type ⟨oe,g,hc⟩ hexc hnt hsub q
theorem dY.zero{A:ax}(r:dY d A)(h:Option Value):dY 0 (A.mark h):=⟨by have:=r.depth;show A.depth+0<_;lia,by have:=r.units;show A.units+8*0+128<_;lia,λz=>absurd z (dC _)⟩
noncomputable def AI(k0:Nat)(b h:DS):DS:=λQ X loc hp=>b Q (λk loc' hp'=>k=k0∧h Q pn loc' hp') loc hp
theorem SimS.try{body suite:List Stmt}{b₀:Stmt}{x:Expr}{hpos pos:Pos}{k0:Nat}{c:Value}{Db Dh:DS}(hb:SimSs P (cj ex) d sc body Db)(hn:NameIs P sc x c)(hm:B7 P (ex k0) c)(hh:SimSs P (cj ex) 0 sc (b₀::suite) Dh):
 SimS P (cj ex) d sc (.Try body [.ExceptHandler (some x) ac (b₀::suite) hpos] [] [] pos) (AI k0 Db Dh):=by
 intro A env s Q X loc hp stk rm hs ev ok hD
 suffices key:∀(R:Flow→af→Prop)(E:Value→af→Prop),(∀f s',PostT P (gc env) stk hp s (QS P A stk env Q) f s'→R f s')→wpAny P.M A (exec (.Try body [.ExceptHandler (some x) ac (b₀::suite) hpos] [] [] pos) env) R E s from key _ _ λv v z=>z
 intro R E hR
 refine wpAny_Try_except (wpAny_mono (hb A env s _ _ loc hp stk rm hs ev ok hD) (λf s1 hq=>?_) λe s1 hq=>?_)
 ·obtain⟨hp1,e1,ok1,w,loc1,ev1,q1,r1⟩:=hq
  revert q1
  refine AG.inv r1 (λq1=>?_) (λq1=>?_) (λq1=>?_) (λu y r1 q1=>?_)
  ·exact se (hR _ _ ⟨hp1,e1,ok1,.next,loc1,ev1,q1,trivial⟩)
  ·exact hR _ _ ⟨hp1,e1,ok1,.brk,loc1,ev1,q1,trivial⟩
  ·exact hR _ _ ⟨hp1,e1,ok1,.cont,loc1,ev1,q1,trivial⟩
  ·exact hR _ _ ⟨hp1,e1,ok1,.ret _,loc1,ev1,q1,r1⟩
 ·obtain⟨hp1,e1,ok1,k,loc1,ev1,⟨hk,hx⟩,hf⟩:=hq
  obtain⟨kk,hpk⟩:=k
  subst hk
  obtain⟨ea,tr,rfl,hea,hT,rfl,xa⟩:=hf
  obtain⟨e0,r0,hfr,hf0⟩:=ev1.top
  refine rM (own:=no1) ev1.frs hfr hf0 ok1 hea hT xa λT L h2 hpT e2 ok2 x2=>?_
  refine flightStep (own:=no1) ok2 x2 λh3 e3 ok3 x3=>?_
  have e13:=e2.trans e3
  have ev3:=ev1.step ok1 e13
  have evm:EnvOk P (A.mark (some (.ref ea))) stk _ env loc1 {s1 with heap:=h3}:=ev3.around rfl
  refine wpAny_handleBy_cons (codeAny_handlers_test (hn _ env _ loc1 _ stk _ _ hs evm ok3 ?_)) (by intro q;cases q)
  refine hm _ _ ea (some T) .none _ _ ok3.base x3 (codeAny_handlers_suite ?_)
  refine flightStep (own:=no1) (s:={s1 with heap:=h3}) ok3 x3 λh4 e4 ok4 x4=>?_
  refine x4.elim λv r2_=>r2_.elim λv r4_=>r4_.elim λv r6_=>r6_.elim λv r8_=>r8_.elim λv r10_=>r10_.elim λv r12_=>r12_.elim λv r14_=>r14_.elim λv r16_=>r16_.elim λv r18_=>r18_.elim λhTe v=>?_
  have ok5:=(ok4.drop T).drop ea
  have e5:Ext no1 stk _ {s1 with heap:=h4} (del (del (nY hpk ea (some T)) T) ea) {s1 with heap:=h4}:=(Ext.drop (own:=no1) (stk:=stk) T).trans (Ext.drop (own:=no1) (stk:=stk) ea)
  have hdel:del (del (nY hpk ea (some T)) T) ea=hpk:=by
   simp only[nY]
   rw[lI (by rw[upd_ne hTe];exact hpT),lI hea]
  rw[hdel]at ok5 e5
  have eT:=(e13.trans e4).trans e5
  have ev5:EnvOk P (A.mark (some (.ref ea))) stk hpk env loc1 {s1 with heap:=h4}:=(ev1.step ok1 eT).around rfl
  refine wpAny_mono (hh _ env _ _ pn loc1 hpk stk (rm.zero _) hs ev5 ok5 hx) (λf s6 hq=>?_) (by rintro _ _ ⟨_,_,_,_,_,_,z,_⟩;exact z.elim)
  obtain⟨hp6,e6,ok6,w,loc6,ev6,q6,r6⟩:=hq
  exact hR _ _ ⟨hp6,(e1.trans eT.of1).trans e6,ok6,w,loc6,ev6.around rfl,q6,r6⟩
noncomputable def sQ(k:Nat)(a:kS):DS:=λQ X loc hp=>a (λvs hp1=>vs.length≤lim∧X k loc hp1) (λk hp'=>X k loc hp') loc hp
theorem uf{own stk:Addr→Prop}{hp:Hp}{s:af}{h':Heap}{e:Addr}{cls:Value}{args:List Value}{k:Nat}(ok:HeapOk P stk hp s)(hm:Az s.heap h' e cls args)(hex:ex k=cls):
 ∃hp',Ext own stk hp s hp' {s with heap:=h'}∧HeapOk P stk hp' {s with heap:=h'}∧cj ex (k,hp) (.ref e) hp' {s with heap:=h'}:=by
 refine hm.there.elim λt r1_=>r1_.elim λg r2_=>r2_.elim λgt g2=>?_
 refine⟨upd hp e .fld,Ext.track (tk:=s.toks) hm.keeps hm.new,ok.track (tk:=s.toks) hm.keeps hm.new ⟨_,_,g,rfl⟩,e,ac,rfl,(fz_of_new ok hm.new).1,λT z=>(nomatch z),rfl,_,_,.ref t,g,hex.symm,rfl,rfl,by simp,rfl⟩
theorem SimS.raise{x:Str}{np cpos pos:Pos}{es:List Expr}{k:Nat}{C:Addr}{B newId initId:String}{bm:List Value}{mg:Str→Option Value}{D:kS}(hd:0<d)(hn:NameIs P sc (.Name x np) (.ref C))(O:OwnCls x C bm newId mg P.H₀)(FB:ExcBaseFacts B newId initId bm)(hex:ex k= .ref C)
 (hr:SimR P (cj ex) d sc cpos es D)(hplain:∀env,(backTo cpos (starEach es env)).any (·.1)=false):SimS P (cj ex) d sc (.Raise (some (.Call (.Name x np) es [] cpos)) ac pos) (sQ k D):=by
 intro A env s Q X loc hp stk rm hs ev ok hD
 refine O.obj.elim λtl r1_=>r1_.elim λN r2_=>r2_.elim λnm r3_=>r3_.elim λq r4_=>r4_.elim λbs r5_=>r5_.elim λhdct r6_=>r6_.elim λsn r7_=>r7_.elim λsub r8_=>r8_.elim λab r9_=>r9_.elim λcol r10_=>r10_.elim λdd r11_=>r11_.elim λk0 r12_=>r12_.elim λk1 r13_=>r13_.elim λk2 r14_=>r14_.elim λk3 r15_=>r15_.elim λk5 r16_=>r16_.elim λmN r17_=>r17_.elim λhC r18_=>r18_.elim λhN r19_=>r19_.elim λhni TL=>?_
 refine wpAny_Raise_call_subT (C:=C) (nm:=nm) (q:=q) (N:=N) (bs:=bs) (bm:=tl) (hdct:=hdct) (sn:=sn) (sub:=sub) (ab:=ab) (col:=col) (dd:=dd) (k0:=k0) (k1:=k1) (k2:=k2) (k3:=k3) (k5:=k5)
  FB (mN:=mN) (TL.hasType FB.hasBase) (rm.hd hd) (hplain env) hni (hn A env s loc hp stk _ _ hs ev ok ⟨rfl,?_⟩)
 refine wpAny_mono (hr (.ref C) A env s _ _ loc hp stk rm hs ev ok hD) (λa s2 hq=>?_) (by rintro e s1 ⟨hp1,e1,ok1,kk,hx,hf⟩;exact⟨hp1,e1.of1,ok1,kk,loc,ev.step ok e1,hx,hf⟩)
 obtain⟨hp2,e2,ok2,hkw,vs,⟨hl,hx⟩,r⟩:=hq
 refine⟨hkw,?_,ok2.base _ _ hC,hN.keeps ok2.base,TL.keeps ok2.base,λh' e hm=>?_⟩
 ·have:=r.length;have:=dZ;lia
 ·refine(uf (own:=no1) (k:=k) ok2 hm hex).elim λhp3 r1_=>r1_.elim λe3 r2_=>r2_.elim λok3 f3=>?_
  exact⟨hp3,(e2.trans e3).of1,ok3,(k,hp2),loc,ev.step ok (e2.trans e3),hx,f3⟩
theorem SimS.never{st:Stmt}:SimS P Fl d sc st (λz z z z=>False):=λA env s Q X loc hp stk rm hs ev ok hD=>hD.elim
end Mine
set_option maxRecDepth 4000
namespace Mine
variable{P:cH}{Fl:f9}{d:Nat}{sc:Scope}{ex:Nat→Value}
noncomputable def j4:V→Bool
 | .fn _=>false
 |_=>true
theorem sW{F:Addr→Prop}{h:Heap}{v:V}{y:Value}(r:Mine.VR P.nm F h v y)(n:j4 v=true):handedIn y=true:=by
 cases v<;>simp only[VRe]at r
 ·subst r;rfl
 ·subst r;rfl
 ·obtain⟨t,rfl⟩:=r;rfl
 ·obtain⟨t,rfl⟩:=r;rfl
 ·obtain⟨a,xs,rfl,_⟩:=r;rfl
 ·obtain⟨a,xs,rfl,_⟩:=r;rfl
 ·obtain⟨a,_,_,rfl,_⟩:=r;rfl
 ·subst r;rfl
 ·cases n
 ·obtain⟨a,_,_,_,rfl,_⟩:=r;rfl
 ·obtain⟨a,rfl,_⟩:=r;rfl
 ·obtain⟨a,rfl,_⟩:=r;rfl
theorem pq.at{F:Addr→Prop}{h:Heap}:∀{fs:List (Nat×V)}{m:Str→Option Value}{i:Nat}{v:V},pq P.nm F h fs m→fs.lookup i=some v→∃y,m (P.nm i)=some y∧Mine.VR P.nm F h v y:=by
 intro xs_
 induction xs_ with
 |nil=>
  intros;simp_all
 |cons e_ fs ih=>
  obtain⟨j,u⟩:=e_
  intro m i v r e
  simp only[VRfe]at r
  rw[dE]at e
  cases q:i==j with
  |true=>rw[q]at e;cases e;have:i=j:=by simpa using q
         subst this;exact r.1
  |false=>rw[q]at e;exact ih r.2 e
structure ClsP(K:Frag)(C:Addr):Prop where
 ga:findIn K (.ref C) "__getattribute__" =some (some (.builtin "object.__getattribute__"))
 sa:findIn K (.ref C) "__setattr__" =some (some (.builtin "object.__setattr__"))
 ov:plainOver K C=true
 gt:findIn K (.ref C) "__getattr__" =some ac
structure rh(K:Frag)(C:Addr)(n:Str):Prop extends ClsP K C where
 free:findIn K (.ref C) n=some ac
 hd:(clsIn K C).any (·.hasDict)=true
theorem vi{es:Array DictEntry}{m:Nat}{n:Str}{y:Value}{c:Value}(h:nsFind es n=some y):lookIn n {cls:=c,data:=.dict es m}=some (some y):=by
 unfold nsFind findBy at h
 unfold lookIn
 dsimp only
 rw[v0]
 cases q:BU (λe=>e.key.isStr n) es with
 |none=>rw[q]at h;cases h
 |some e=>rw[q]at h;cases h;rfl
theorem findObj_own{K:Frag}{C:Addr}{n:Str}(c:rh K C n){od:Obj}{y:Value}(h:lookIn n od=some (some y)):findObj K C (some od) n=some (.value y):=by
 refine(any_some c.hd).elim λcd r1_=>r1_.elim λhc hh=>?_
 unfold findObj
 rw[hc,dT,c.free,dT]
 simp only[dT,W.ownOf,hh,if_true,h]
theorem getD{A:ax}{s:af}{a dd C:Addr}{m:Str→Option Value}{cc:Nat}{n:Str}{y:Value}{b:Bool}{Q:Value→af→Prop}{E:Value→af→Prop}(X:P.K.In s.heap)(c:rh P.K C n)(ha:s.heap.get? a=some {cls:=.ref C,dict:=some dd})(hn:uT s.heap dd m cc)(hy:m n=some y)(hh:handedIn y=true)
 (q:Q y {s with toks:=s.toks+1}):wpAny P.M A (getAttr (.ref a) n b) Q E s:=by
 refine hn.elim λes r1_=>r1_.elim λk r2_=>r2_.elim λg r3_=>r3_.elim λz r5_=>r5_.elim λz hf=>?_
 exact get_value X ⟨ha,rfl,rfl,g⟩ c.ga (findObj_own c (vi ((hf n).trans hy))) hh q
noncomputable def bn(C:Addr)(i:Nat):V→(V→Hp→Prop)→Hp→Prop:=λo Q hp=>match o with
 | .ref a=>∃dd fs v,hp a=some (.inst C dd)∧hp dd=some (.ns fs)∧fs.lookup i=some v∧j4 v=true∧Q v hp
 | .obj C' fs=>C'=C∧∃v,fs.lookup i=some v∧j4 v=true∧Q v hp
 |_=>False
theorem qh{mg mb:Str→Option Value}(tp:dG P mg mb){C:Addr}{i:Nat}(c:rh P.K C (P.nm i)){A:ax}{s:af}{hp:Hp}{stk:Addr→Prop}{v:V}{x:Value}{b:Bool}{Q:V→Hp→Prop}{X:XP}(ok:HeapOk P stk hp s)(r:P.VR stk hp s.heap v x)(h:bn C i v Q hp):
 T P no1 stk A (getAttr x (P.nm i) b) hp s (PV P stk Q) X:=by
 have X:=tp.kin.keeps ok.base
 cases v<;>first|exact h.elim|skip
 ·obtain⟨rfl,u,hu,hn,q⟩:=h
  obtain⟨a,dd,m,rfl,_,_,g,ns,rf,_⟩:=r
  refine(rf.at hu).elim λy r1_=>r1_.elim λhy ry=>?_
  exact getD X c g ns hy (sW ry hn) (fV ok q ry)
 ·obtain⟨dd,fs,u,h1,h2,hu,hn,q⟩:=h
  cases r
  have g:=ok.obj _ _ h1
  refine(ok.obj _ _ h2).elim λm r1_=>r1_.elim λns r2_=>r2_.elim λrf z=>?_
  obtain⟨y,hy,ry⟩:=rf.at hu
  exact getD X c g ns hy (sW ry hn) (fV ok q ry)
noncomputable def bU(f:V→(V→Hp→Prop)→Hp→Prop)(o:DE):DE:=λQ X loc hp=>o (λv hp1=>f v Q hp1) X loc hp
theorem Sim.attr{mg mb:Str→Option Value}(tp:dG P mg mb){C:Addr}{i:Nat}{n:Str}(hi:P.nm i=n)(c:rh P.K C n){o:Expr}{pos:Pos}{D:DE}(h:bz P Fl d sc o D)(hb:∀env,attributeBase o n env (eval o env)=eval o env:=by exact λw=>rfl):bz P Fl d sc (.Attribute o n pos) (bU (bn C i) D):=by
 subst hi
 intro A env s Q X loc hp stk rm hs ev ok hD
 rw[T,jO,hb env]
 refine wpAny_bind ((h A env s _ X loc hp stk rm hs ev ok hD).thn λx hp1 s1 e1 ok1 hq=>?_)
 obtain⟨v,q,r⟩:=hq
 refine wpAny_bind (wpAny_standAt (wpAny_bind (wpAny_holding (wpAny_mono (qh tp c (X:=lX Fl X) ok1 r q) (λy s2 z=>?_) λw w z=>z.back P e1))))
 exact wpAny_bind (iM (wpAny_pure (z.back P e1)))
structure z3(K:Frag)(C:Addr)(n:Str)(k:Nat):Prop extends ClsP K C where
 p:∃p,(∀od,findObj K C od n=some (.bind (.builtin "member_descriptor.__get__") (.ref p)))∧slotIn K p C=some k∧takerIn K C n=some (some (.ref p))∧typeIn K (.ref p)=some (.type "member_descriptor")
 lt:k<1000
theorem SR.at{F:Addr→Prop}{h:Heap}:∀{vs:List (Option V)}{xs:List (Option Value)}{k:Nat}{v:V},SR P.nm F h vs xs→vs[k]?=some (some v)→∃y,xs[k]?=some (some y)∧Mine.VR P.nm F h v y
 |u::vs,xs,0,v,r,e=>by
  obtain⟨y,ys,rfl,p,q⟩:=r
  simp only[List.getElem?_cons_zero,cO]at e
  subst e
  cases y with
  |none=>exact p.elim
  |some y=>exact⟨y,rfl,p⟩
 |u::vs,xs,k+1,v,r,e=>by
  obtain⟨y,ys,rfl,p,q⟩:=r
  simpa using SR.at q (by simpa using e)
noncomputable def gh(C:Addr)(k:Nat):V→(V→Hp→Prop)→Hp→Prop:=λo Q hp=>match o with
 | .ref a=>∃vs v,hp a=some (.sl C vs)∧vs[k]?=some (some v)∧j4 v=true∧Q v hp
 |_=>False
theorem pW{mg mb:Str→Option Value}(tp:dG P mg mb){C:Addr}{n:Str}{k:Nat}(c:z3 P.K C n k){A:ax}{s:af}{hp:Hp}{stk:Addr→Prop}{v:V}{x:Value}{b:Bool}{Q:V→Hp→Prop}{X:XP}(ok:HeapOk P stk hp s)(r:P.VR stk hp s.heap v x)(h:gh C k v Q hp):
 T P no1 stk A (getAttr x n b) hp s (PV P stk Q) X:=by
 have X':=tp.kin.keeps ok.base
 refine c.p.elim λp r1_=>r1_.elim λhf r2_=>r2_.elim λhsl r3_=>r3_.elim λz z=>?_
 cases v<;>first|exact h.elim|skip
 refine h.elim λvs r1_=>r1_.elim λu r2_=>r2_.elim λh1 r3_=>r3_.elim λhu r4_=>r4_.elim λhn q=>?_
 cases r
 refine(ok.obj _ _ h1).elim λxs r1_=>r1_.elim λdd r2_=>r2_.elim λod r3_=>r3_.elim λg r4_=>r4_.elim λfd r5_=>r5_.elim λgd sr=>?_
 refine(sr.at hu).elim λy r1_=>r1_.elim λhy ry=>?_
 have I:InstAt s.heap _ _ C (some od):=⟨g,rfl,rfl,gd⟩
 refine get_bind X' I c.ga (hf _) c.gt ?_
 refine wpAny_call (slot_get (s:={s with toks:=s.toks+1}) X' I hsl (v:=y) ?_ ?_)
 ·show(xs[k]?).join=some y
  rw[←bg,hy];rfl
 ·show wpAny _ _ (handedOut y) _ _ _
  rw[xi (sW ry hn)]
  exact wpAny_pure (fV ok q ry)
theorem Sim.slot{mg mb:Str→Option Value}(tp:dG P mg mb){C:Addr}{n:Str}{k:Nat}(c:z3 P.K C n k){o:Expr}{pos:Pos}{D:DE}(h:bz P Fl d sc o D)(hb:∀env,attributeBase o n env (eval o env)=eval o env:=by exact λw=>rfl):bz P Fl d sc (.Attribute o n pos) (bU (gh C k) D):=by
 intro A env s Q X loc hp stk rm hs ev ok hD
 rw[T,jO,hb env]
 refine wpAny_bind ((h A env s _ X loc hp stk rm hs ev ok hD).thn λx hp1 s1 e1 ok1 hq=>?_)
 obtain⟨v,q,r⟩:=hq
 refine wpAny_bind (wpAny_standAt (wpAny_bind (wpAny_holding (wpAny_mono (pW tp c (X:=lX Fl X) ok1 r q) (λy s2 z=>?_) λw w z=>z.back P e1))))
 exact wpAny_bind (iM (wpAny_pure (z.back P e1)))
theorem Cp{M:Model}{A:ax}{s:af}{dd:Addr}{m:Str→Option Value}{c:Nat}{n:Str}{v:Value}{Q:Unit→af→Prop}{E:Value→af→Prop}(hn:uT s.heap dd m c)
 (q:∀h',uT h' dd (λx=>if x=n then some v else m x) (if(m n).isSome then c else c+1)→bv dd s.heap h'→Q () {s with heap:=h',toks:=s.toks+1}):wpAny M A (nsSet dd n v) Q E s:=by
 refine hn.elim λes r1_=>r1_.elim λk r2_=>r2_.elim λg r3_=>r3_.elim λhz r4_=>r4_.elim λhk hf=>?_
 have hany:es.any (·.refKey)=false:=by
  rw[Array.any_eq_false'];intro e he;obtain⟨n,t,h⟩:=hk e he;simp[tU,h]
 unfold nsSet
 refine wpAny_bind (wpAny_bind (CH (wpAny_pure (wpAny_bind (FN (wpAny_bind (tw g ?_)))))))
 dsimp only
 rw[aRefKeyMayBeTheName_at,hany,Bool.and_false,if_neg (by decide)]
 refine CF g (q _ ?_ (bD ..))
 have fi:=findBy_of_findIdx? (λ(n:Str) v=>v.isStr n) es n
 cases hi:es.findIdx? (·.key.isStr n)with
 |some i=>
  have hs:(m n).isSome=true:=by
   rw[←hf n]
   show(findBy (λ(n:Str) v=>v.isStr n) es n).isSome=true
   rw[fi,hi]
   have:=(Array.findIdx?_eq_some_iff_getElem.mp hi).1
   simp[this]
  rw[if_pos hs]
  refine⟨_,k,bO _ g (by simp only[ls,ja,hi];rfl) |>.trans (by simp only[ls,ja,hi];rfl),by rw[Array.size_modify];exact hz,hk.modify _ _,λx=>?_⟩
  show _=if x=n then some v else m x
  rw[←hf];exact findBy_modify (λn v=>v.isStr n) Value.isStr_inj es n x v i hi
 |none=>
  have hs:(m n).isSome=false:=by
   rw[←hf n]
   show(findBy (λ(n:Str) v=>v.isStr n) es n).isSome=false
   rw[fi,hi];rfl
  rw[hs]
  refine⟨_,k+1,bO _ g (by simp only[ls,ja,hi];rfl) |>.trans (by simp only[ls,ja,hi];rfl),by rw[Array.size_push];simpa using hz,hk.push _ _ _ _,λx=>?_⟩
  show _=if x=n then some v else m x
  rw[←hf]
  exact findBy_push (λn v=>v.isStr n) es n x _ _ v (λy=>by
   show(n==y)=decide (y=n)
   by_cases h:y=n
   ·subst h;simp
   ·have:¬n=y:=λe=>h e.symm
    simp[h,this]) hi
noncomputable def ju(fs:List (Nat×V))(i:Nat)(v:V):List (Nat×V):=if fs.any (λp=>decide (p.1=i))then fs.map (λp=>if p.1=i then(p.1,v)else p)else fs++[(i,v)]
theorem pq.set(inj:∀i j,P.nm i=P.nm j→i=j){F:Addr→Prop}{h:Heap}{i:Nat}{v:V}{y:Value}(hv:Mine.VR P.nm F h v y):∀{fs:List (Nat×V)}{m:Str→Option Value},pq P.nm F h fs m→pq P.nm F h (fs.map (λp=>if p.1=i then(p.1,v)else p)) (λx=>if x=P.nm i then some y else m x):=by
 intro xs_
 induction xs_ with
 |nil=>
  intro m _
  simp only[gj,VRfe]
 |cons e_ fs ih=>
  obtain⟨j,u⟩:=e_
  intro m r
  simp only[VRfe]at r
  simp only[ao]
  by_cases hj:j=i
  ·simp only[hj,if_true,VRfe]
   exact⟨⟨y,rfl,hv⟩,ih r.2⟩
  ·simp only[hj,if_false,VRfe]
   refine⟨?_,ih r.2⟩
   obtain⟨z,e,q⟩:=r.1
   exact⟨z,by rw[if_neg (λe=>hj (inj _ _ e))];exact e,q⟩
theorem pq.add(inj:∀i j,P.nm i=P.nm j→i=j){F:Addr→Prop}{h:Heap}{i:Nat}{v:V}{y:Value}(hv:Mine.VR P.nm F h v y):∀{fs:List (Nat×V)}{m:Str→Option Value},pq P.nm F h fs m→fs.any (λp=>decide (p.1=i))=false→pq P.nm F h (fs++[(i,v)]) (λx=>if x=P.nm i then some y else m x):=by
 intro xs_
 induction xs_ with
 |nil=>
  intro m _ _
  dsimp only[aX,VRfe];exact⟨⟨y,by simp,hv⟩,trivial⟩
 |cons e_ fs ih=>
  obtain⟨j,u⟩:=e_
  intro m r a
  simp only[VRfe]at r
  simp only[jo,Bool.or_eq_false_iff,decide_eq_false_iff_not]at a
  simp only[cM,VRfe]
  refine⟨?_,ih r.2 a.2⟩
  obtain⟨z,e,q⟩:=r.1
  exact⟨z,by rw[if_neg (λe=>a.1 (inj _ _ e))];exact e,q⟩
theorem zb(inj:∀i j,P.nm i=P.nm j→i=j){F:Addr→Prop}{h h':Heap}{dd:Addr}{i:Nat}{v:V}{y:Value}{fs:List (Nat×V)}{m:Str→Option Value}(hv:Mine.VR P.nm F h' v y)(rf:pq P.nm F h' fs m)(cov:∀n z,m n=some z→∃p∈fs,P.nm p.1=n)
 (hn:uT h' dd (λx=>if x=P.nm i then some y else m x) (if(m (P.nm i)).isSome then fs.length else fs.length+1)):OR P.nm P.prog P.w F h' dd (.ns (ju fs i v)):=by
 refine⟨λx=>if x=P.nm i then some y else m x,?_,?_,?_⟩
 ·have hl:(ju fs i v).length=if(m (P.nm i)).isSome then fs.length else fs.length+1:=by
   unfold ju
   cases a:fs.any (λp=>decide (p.1=i))with
   |true=>
    obtain⟨p,hp,e⟩:=b3.mp a
    have e':p.1=i:=by simpa using e
    have:(m (P.nm i)).isSome=true:=by
     clear hn cov hv
     induction fs with
     |nil=>cases hp
     |cons q fs ih=>
      obtain⟨j,u⟩:=q
      simp only[VRfe]at rf
      rcases ah.mp hp with z|z
      ·subst z;refine rf.1.elim λy' r1_=>r1_.elim λe2 t=>?_;simp only at e';subst e';rw[e2];rfl
      ·exact ih rf.2 (b3.mpr ⟨p,z,e⟩) z
    simp[this]
   |false=>
    have:(m (P.nm i)).isSome=false:=by
     cases q:m (P.nm i)with
     |none=>rfl
     |some z=>
      refine(cov _ _ q).elim λp r1_=>r1_.elim λhp e=>?_
      have:=jm.mp a p hp
      simp only[decide_eq_true_eq]at this
      exact absurd (inj _ _ e) this
    simp[this]
  rw[hl];exact hn
 ·unfold ju
  cases a:fs.any (λp=>decide (p.1=i))with
  |true=>simpa using rf.set inj hv
  |false=>simpa using rf.add inj hv a
 ·intro n z hz
  by_cases q:n=P.nm i
  ·subst q
   unfold ju
   cases a:fs.any (λp=>decide (p.1=i))with
   |true=>
    refine(b3.mp a).elim λp r1_=>r1_.elim λhp e=>?_
    have e':p.1=i:=by simpa using e
    exact⟨(p.1,v),by simp only[if_true];exact an.mpr ⟨p,hp,by simp[e']⟩,by rw[e']⟩
   |false=>exact⟨(i,v),by simp,rfl⟩
  ·have hz:m n=some z:=by rw[←hz];exact(if_neg q).symm
   refine(cov _ _ hz).elim λp r1_=>r1_.elim λhp e=>?_
   have ne:p.1≠i:=λz=>q (by rw[←e,z])
   unfold ju
   cases a:fs.any (λp=>decide (p.1=i))with
   |true=>exact⟨p,by simp only[if_true];exact an.mpr ⟨p,hp,by simp[ne]⟩,e⟩
   |false=>exact⟨p,by simp[hp],e⟩
theorem setD{A:ax}{s:af}{a dd C:Addr}{m:Str→Option Value}{cc:Nat}{n:Str}{y:Value}{Q:Unit→af→Prop}{E:Value→af→Prop}(X:P.K.In s.heap)(c:rh P.K C n)(ha:s.heap.get? a=some {cls:=.ref C,dict:=some dd})(hn:uT s.heap dd m cc)(hc:cc≤1000)
 (q:∀h' tk,uT h' dd (λx=>if x=n then some y else m x) (if(m n).isSome then cc else cc+1)→bv dd s.heap h'→Q () {s with heap:=h',toks:=tk}):wpAny P.M A (setAttr (.ref a) n y) Q E s:=by
 refine(id hn).elim λes r1_=>r1_.elim λk r2_=>r2_.elim λg r3_=>r3_.elim λhz r4_=>r4_.elim λhk hf=>?_
 have I:InstAt s.heap a _ C (some _):=⟨ha,rfl,rfl,g⟩
 refine(any_some c.hd).elim λcd r1_=>r1_.elim λhcd hh=>?_
 refine set_plain X I c.sa ?_
 have ht:takerIn P.K C n=some ac:=by unfold takerIn;rw[c.free];rfl
 refine osa_open (s:={s with toks:=s.toks+1}) X I c.ov ht λb=>?_
 refine wpAny_bind (wpAny_pure (wpAny_bind (wpAny_bind (tw ha (wpAny_bind ((F4 (M:=P.M) (h:=({s with toks:=s.toks+1}:af).heap) X hcd).here ?_))))))
 rw[hh]
 refine wpAny_pure (a:=some dd) (wpAny_bind (wpAny_pure (wpAny_bind ?_)))
 refine Cp (s:={s with toks:=s.toks+1}) hn λh' hn' hs'=>?_
 obtain⟨es',k',g',hz',_⟩:=id hn'
 refine wpAny_bind (wpAny_lookBehind g' (pastItsLine_dict ?_) (wpAny_pure (q h' _ hn' hs')))
 rw[eK]
 split at hz'<;>lia
noncomputable def dU(C:Addr)(i:Nat):V→V→(Hp→Prop)→Hp→Prop:=λo v Q hp=>match o with
 | .ref a=>∃dd fs,hp a=some (.inst C dd)∧hp dd=some (.ns fs)∧fs.length≤1000∧Q (upd hp dd (.ns (ju fs i v)))
 |_=>False
theorem vd(inj:∀i j,P.nm i=P.nm j→i=j){mg mb:Str→Option Value}(tp:dG P mg mb){C:Addr}{i:Nat}(c:rh P.K C (P.nm i)){A:ax}{s:af}{hp:Hp}{stk:Addr→Prop}{o v:V}{x y:Value}{Q:Hp→Prop}{X:XP}(ok:HeapOk P stk hp s)(ro:P.VR stk hp s.heap o x)(rv:P.VR stk hp s.heap v y)(h:dU C i o v Q hp):
 T P no1 stk A (setAttr x (P.nm i) y) hp s (λw hp' s'=>Q hp') X:=by
 have X':=tp.kin.keeps ok.base
 cases o<;>first|exact h.elim|skip
 obtain⟨dd,fs,h1,h2,hl,q⟩:=h
 cases ro
 have g:=ok.obj _ _ h1
 obtain⟨m,ns,rf,cov⟩:=ok.obj _ _ h2
 refine setD X' c g ns hl λh' tk hn' hs'=>?_
 have hdd:hp dd≠ac:=by rw[h2];intro z;cases z
 have ky:bB (Fz stk hp) (Fz stk (upd hp dd (.ns (ju fs i v)))) s.heap h':=by
  intro b ob i1_ g;refine i1_.elim λe n=>?_
  have:b≠dd:=by rintro rfl;exact hdd e
  exact⟨⟨by rw[upd_ne this];exact e,n⟩,(hs'.2 b this).trans g⟩
 refine⟨upd hp dd (.ns (ju fs i v)),Ext.change ok h2 hs' (by obtain⟨es,k,g,_⟩:=hn';exact⟨_,g⟩),ok.change h2 hs' ?_,q⟩
 exact zb inj (h:=s.heap) (rv.keep ky) (rf.keep ky) cov hn'
end Mine
namespace Mine
open PySem PySem.W PySem.Calls PyProof.Rows PySem.Builtin PySem.Builtin.ObjectAttr PySem.Builtin.Getset_descriptor
variable{P:cH}{Fl:f9}{d:Nat}{sc:Scope}{ex:Nat→Value}
noncomputable def rB(i:Nat)(v:Value)(o:Obj):Obj:={o with slots:=(o.slots++o8 (i+1 - o.slots.size) none).setIfInBounds i (some v)}
theorem y7{A:ax}{K:Frag}{prog:Program}{w:c8}{s:af}{x p C:Addr}{i:Nat}{ox:Obj}{od:Option Obj}{v:Value}{R:qs→af→Prop}(X:K.In s.heap)(I:InstAt s.heap x ox C od)(hp:slotIn K p C=some i)(hi:i<1000)
 (h:R (.ok (.ret .none)) {s with heap:=s.heap.update x (rB i v)}):codeAny (model prog w) A (.call (.builtin "member_descriptor.__set__") ⟨[.ref p,.ref x,v],[]⟩) R s:=by
 obtain⟨n,tn,owner,behind,tb,dd,sl,cd,ho,hc,hm,hb,rfl⟩:=slot_of X hp
 obtain⟨hh,g,dr,t,os⟩:=s
 have L0:=I.type (M:=model prog w)
 have L1:=looks_mroIn (M:=model prog w) X hm
 have L2:F2 (model prog w) hh (Slots.slotNamesOf (.ref C)) cd.slotNames:=(F4 X hc).andThen .now
 have hx:=I.at_
 dsimp only at ho hx L0 L1
 have f0:=q9 (M:=model prog w) ho 0 (v:=.str n tn) rfl
 have f1:=q9 (M:=model prog w) ho 1 (v:=owner) rfl
 have f3:=q9 (M:=model prog w) ho 3 (v:=.builtin "proto.slot#set") rfl
 have f4:=q9 (M:=model prog w) ho 4 (v:=.int behind tb) rfl
 refine mR uM.plain KF.entry_mset (uM.check _ _ _ _ _ _ _ _ ⟨_,ho,rfl⟩ (KF.args_mset _ _ _) ?_)
 unfold Builtin.«member_descriptor.__set__» descrSet descrStoreThrough descrCheckInstance descrNameAndClass isInstance
 have f5:F2 (model prog w) hh (descrItself (.ref p)) [.ref p]:=((Et (part:=none) ho).andThen .now).andThen (lz (by kernel_rfl))
 repeat lk
 refine⟨wd _ (by decide+kernel),ly KF.entry_slotset ?_⟩
 unfold Builtin.«proto.slot#set» Slots.target
 repeat lk
 rw[if_neg hb]
 refine wpAny_pure (wpAny_bind ?_)
 unfold setSlotAt
 dsimp only
 rw[if_neg (by rw[eK];lia)]
 exact CF hx (wpAny_pure h)
noncomputable def kU(vs:List (Option V))(k:Nat)(v:V):List (Option V):=(vs++ar (k+1 - vs.length) ac).set k (some v)
theorem SR.length{F:Addr→Prop}{h:Heap}:∀{vs:List (Option V)}{xs:List (Option Value)},SR P.nm F h vs xs→xs.length=vs.length:=by
 intro xs_
 induction xs_ with
 |nil=>
  intro xs r
  cases r;rfl
 |cons u vs ih=>
  intro xs r
  obtain⟨y,ys,rfl,p,q⟩:=r
  simp[ih q]
theorem SR.pad{F:Addr→Prop}{h:Heap}{n:Nat}:∀{vs:List (Option V)}{xs:List (Option Value)},SR P.nm F h vs xs→SR P.nm F h (vs++ar n ac) (xs++ar n ac):=by
 intro xs_
 induction xs_ with
 |nil=>
  intro xs r
  cases r
  simp only[aX]
  induction n with
  |zero=>simp[SRe]
  |succ n ih=>dsimp only[dh,SRe];exact⟨_,_,rfl,trivial,ih⟩
 |cons u vs ih=>
  intro xs r
  obtain⟨y,ys,rfl,p,q⟩:=r
  dsimp only[cM,SRe]
  exact⟨y,_,rfl,p,ih q⟩
theorem SR.put{F:Addr→Prop}{h:Heap}{v:V}{y:Value}(hv:Mine.VR P.nm F h v y):∀{vs:List (Option V)}{xs:List (Option Value)}{k:Nat},SR P.nm F h vs xs→SR P.nm F h (vs.set k (some v)) (xs.set k (some y))
 | [],xs,k,r=>by cases r;simp[SRe]
 |u::vs,xs,0,r=>by
  obtain⟨z,ys,rfl,p,q⟩:=r
  dsimp only[v7,SRe]
  exact⟨_,_,rfl,hv,q⟩
 |u::vs,xs,k+1,r=>by
  obtain⟨z,ys,rfl,p,q⟩:=r
  dsimp only[v8,SRe]
  exact⟨_,_,rfl,p,SR.put hv q⟩
noncomputable def j6(C:Addr)(k:Nat):V→V→(Hp→Prop)→Hp→Prop:=λo v Q hp=>match o with
 | .ref a=>∃vs,hp a=some (.sl C vs)∧Q (upd hp a (.sl C (kU vs k v)))
 |_=>False
set_option tactic.hygienic true in
theorem va{mg mb:Str→Option Value}(tp:dG P mg mb){C:Addr}{n:Str}{k:Nat}(c:z3 P.K C n k)(hset:B3 "member_descriptor" "__set__" "member_descriptor.__set__"){A:ax}{s:af}{hp:Hp}{stk:Addr→Prop}{o v:V}{x y:Value}{Q:Hp→Prop}{X:XP}(ok:HeapOk P stk hp s)(ro:P.VR stk hp s.heap o x)(rv:P.VR stk hp s.heap v y)(h:j6 C k o v Q hp):
 T P no1 stk A (setAttr x n y) hp s (λ_ hp' s'=>Q hp') X:=by
 have X':=tp.kin.keeps ok.base
 obtain⟨p,hf,hsl,htk,hty⟩:=c.p
 cases o<;>first|exact h.elim|skip
 rename_i a
 obtain⟨vs,h1,q⟩:=h
 cases ro
 obtain⟨xs,dd,od,g,fd,gd,sr⟩:=ok.obj _ _ h1
 have I:InstAt s.heap a _ C (some od):=⟨g,rfl,rfl,gd⟩
 refine set_plain X' I c.sa ?_
 refine osa_descr (s:={s with toks:=s.toks+1}) hset X' I c.ov htk hty ?_
 refine y7 (s:={s with toks:=s.toks+1}) X' I hsl c.lt ?_
 have sb:bv a s.heap (s.heap.update a (rB k y)):=bD ..
 have g':(s.heap.update a (rB k y)).get? a=some {cls:=.ref C,dict:=some dd,slots:=(xs++o8 (k+1 - xs.size) none).setIfInBounds k (some y)}:=bO _ g rfl
 have ha:hp a≠ac:=by rw[h1];intro z;cases z
 have ky:bB (Fz stk hp) (Fz stk (upd hp a (.sl C (kU vs k v)))) s.heap (s.heap.update a (rB k y)):=by
  intro b ob i1_ g;refine i1_.elim λe n=>?_
  have:b≠a:=by rintro rfl;exact ha e
  exact⟨⟨by rw[upd_ne this];exact e,n⟩,(sb.2 b this).trans g⟩
 refine⟨upd hp a (.sl C (kU vs k v)),Ext.change (tk:=s.toks+1) ok h1 sb ⟨_,g'⟩,HeapOk.change (tk:=s.toks+1) ok h1 sb ?_,q⟩
 show OR P.nm P.prog P.w _ (s.heap.update a (rB k y)) a _
 refine⟨(xs++o8 (k+1 - xs.size) none).setIfInBounds k (some y),dd,od,g',(ky _ _ fd gd).1,(ky _ _ fd gd).2,?_⟩
 have hl:=sr.length
 have hz:xs.size=vs.length:=by rw[←hl];simp
 rw[pN,ie,Array.toList_replicate,hz]
 exact SR.put (rv.keep ky) (SR.pad (sr.keep ky))
noncomputable def gB(f:V→V→(Hp→Prop)→Hp→Prop)(o:DE):DA:=λv Q X loc hp=>o (λov hp1=>f ov v (λhp2=>Q loc hp2) hp1) (λk hp'=>X k loc hp') loc hp
noncomputable def OkSet(P:cH)(n:Str)(f:V→V→(Hp→Prop)→Hp→Prop):Prop:=
 ∀(A:ax)(s:af)(hp:Hp)(stk:Addr→Prop)(o v:V)(x y:Value)(Q:Hp→Prop)(X:XP),HeapOk P stk hp s→P.VR stk hp s.heap o x→P.VR stk hp s.heap v y→f o v Q hp→T P no1 stk A (setAttr x n y) hp s (λz hp' s'=>Q hp') X
noncomputable def OkGet(P:cH)(n:Str)(f:V→(V→Hp→Prop)→Hp→Prop):Prop:=
 ∀(A:ax)(s:af)(hp:Hp)(stk:Addr→Prop)(o:V)(x:Value)(b:Bool)(Q:V→Hp→Prop)(X:XP),HeapOk P stk hp s→P.VR stk hp s.heap o x→f o Q hp→T P no1 stk A (getAttr x n b) hp s (PV P stk Q) X
theorem OkSet.dict(inj:∀i j,P.nm i=P.nm j→i=j){mg mb:Str→Option Value}(tp:dG P mg mb){C:Addr}{i:Nat}{n:Str}(hi:P.nm i=n)(c:rh P.K C n):OkSet P n (dU C i):=by
 subst hi;exact λA s hp stk o v x y Q X ok ro rv h=>vd inj tp c ok ro rv h
theorem OkSet.slot{mg mb:Str→Option Value}(tp:dG P mg mb){C:Addr}{n:Str}{k:Nat}(c:z3 P.K C n k)(hset:B3 "member_descriptor" "__set__" "member_descriptor.__set__"):OkSet P n (j6 C k):=λA s hp stk o v x y Q X ok ro rv h=>va tp c hset ok ro rv h
theorem OkGet.dict{mg mb:Str→Option Value}(tp:dG P mg mb){C:Addr}{i:Nat}{n:Str}(hi:P.nm i=n)(c:rh P.K C n):OkGet P n (bn C i):=by
 subst hi;exact λA s hp stk o x b Q X ok ro h=>qh tp c ok ro h
theorem OkGet.slot{mg mb:Str→Option Value}(tp:dG P mg mb){C:Addr}{n:Str}{k:Nat}(c:z3 P.K C n k):OkGet P n (gh C k):=λA s hp stk o x b Q X ok ro h=>pW tp c ok ro h
theorem SimG.attr{n:Str}{f:V→V→(Hp→Prop)→Hp→Prop}(hf:OkSet P n f){o:Expr}{pos:Pos}{D:DE}(h:bz P Fl d sc o D):SimG P Fl d sc (.Attribute o n pos) [] (gB f D):=by
 intro A env s Q X loc hp stk v x rm hs ev ok r hD
 rw[T,arm_assign_Attribute]
 refine wpAny_bind (wpAny_holding (wpAny_mono (h A env s _ _ loc hp stk rm hs ev ok hD) (λov s1 hq=>?_) (by rintro e s1 ⟨hp1,e1,ok1,kk,hx,hfl⟩;exact⟨hp1,e1.of1,ok1,kk,loc,ev.step ok e1,hx,hfl⟩)))
 obtain⟨hp1,e1,ok1,u,q,ru⟩:=hq
 refine wpAny_bind (wpAny_standAt (wpAny_bind (wpAny_holding (wpAny_mono (hf A s1 hp1 stk u v ov x _ (λy y y=>False) ok1 ru (d5 e1 r) q) (λy s2 hq=>?_) (by rintro _ _ ⟨_,_,_,z⟩;exact z.elim)))))
 obtain⟨hp2,e2,ok2,q2⟩:=hq
 exact E7 ⟨hp2,(e1.trans e2).of1,ok2,loc,ev.step ok (e1.trans e2),q2⟩
noncomputable def uU(g:V→(V→Hp→Prop)→Hp→Prop)(f:V→V→(Hp→Prop)→Hp→Prop)(b:B2)(o e:DE):DS:=λQ X loc hp=>o (λov hp1=>g ov (λold hp2=>e (λu hp3=>b old u (λw hp4=>f ov w (λhp5=>Q .next loc hp5) hp4) hp3) (λk hp'=>X k loc hp') loc hp2) hp1) (λk hp'=>X k loc hp') loc hp
theorem SimS.aug{n:Str}{g:V→(V→Hp→Prop)→Hp→Prop}{f:V→V→(Hp→Prop)→Hp→Prop}{b:B2}{op:Operator}(hg:OkGet P n g)(hf:OkSet P n f)(hb:nh P Fl (inplaceOp op) b){o e:Expr}{tpos pos:Pos}{Do De:DE}(ho:bz P Fl d sc o Do)(he:bz P Fl d sc e De):SimS P Fl d sc (.AugAssign (.Attribute o n tpos) op e pos) (uU g f b Do De):=by
 intro A env s Q X loc hp stk rm hs ev ok hD
 refine wpAny_AugAssign_AttributeAny (E2 ho rm hs ev ok hD λov x hp1 s1 e1 ev1 ok1 q1 r1=>?_)
 refine wpAny_mono (hg A s1 hp1 stk ov x true _ (λy y y=>False) ok1 r1 q1) (λold s2 hq=>?_) (by rintro _ _ ⟨_,_,_,z⟩;exact z.elim)
 obtain⟨hp2,e2,ok2,ou,q2,r2⟩:=hq
 have e12:=e1.trans e2
 refine wpAny_mono (E2 (G:=λx s'=>∃v hp1,Ext no1 stk hp2 s2 hp1 s'∧HeapOk P stk hp1 s'∧_∧P.VR stk hp1 s'.heap v x) he rm hs (ev.step ok e12) ok2 q2 λv x hp3 s3 e3 ev3 ok3 q3 r3=>⟨v,hp3,e3,ok3,q3,r3⟩) (λu s3 hq=>?_) λy y z=>z.back P e12.of1
 obtain⟨v,hp3,e3,ok3,q3,r3⟩:=hq
 have e13:=e12.trans e3
 refine wpAny_mono (hb A s3 _ (λk hp'=>False) hp3 stk ou v old u (rm.less (aD _)) ok3 (d5 e3 r2) r3 q3) (λw s4 hq=>?_) (by rintro _ _ ⟨_,_,_,_,z,_⟩;exact z.elim)
 obtain⟨hp4,e4,ok4,wv,q4,r4⟩:=hq
 have e14:=e13.trans e4
 refine wpAny_mono (hf A s4 hp4 stk ov wv x w _ (λy y y=>False) ok4 (d5 (e2.trans (e3.trans e4)) r1) r4 q4) (λy s5 hq=>?_) (by rintro _ _ ⟨_,_,_,z⟩;exact z.elim)
 obtain⟨hp5,e5,ok5,q5⟩:=hq
 exact⟨hp5,(e14.trans e5).of1,ok5,.next,loc,ev.step ok (e14.trans e5),q5,trivial⟩
end Mine
namespace Mine
variable{P:cH}{Fl:f9}{d:Nat}{sc:Scope}{ex:Nat→Value}
theorem VRs.set{F:Addr→Prop}{h:Heap}{v:V}{y:Value}(hv:Mine.VR P.nm F h v y):∀{vs:List V}{xs:List Value}{k:Nat},VRs P.nm F h vs xs→VRs P.nm F h (vs.set k v) (xs.set k y)
 | [],xs,k,r=>by simp only[VRse]at r;subst r;simp[VRse]
 |u::vs,xs,0,r=>by
  simp only[VRse]at r
  obtain⟨z,ys,rfl,p,q⟩:=r
  dsimp only[v7,VRse]
  exact⟨_,_,rfl,hv,q⟩
 |u::vs,xs,k+1,r=>by
  simp only[VRse]at r
  obtain⟨z,ys,rfl,p,q⟩:=r
  dsimp only[v8,VRse]
  exact⟨_,_,rfl,p,VRs.set hv q⟩
theorem listChanged{own stk:Addr→Prop}{hp:Hp}{s:af}{a:Addr}{vs ws:List V}{h':Heap}{tk:Nat}{ys:Array Value}(ok:HeapOk P stk hp s)(ha:hp a=some (.lst vs))(sb:bv a s.heap h')(pl:h'.PlainList a ys)
 (r:bB (Fz stk hp) (Fz stk (upd hp a (.lst ws))) s.heap h'→VRs P.nm (Fz stk (upd hp a (.lst ws))) h' ws ys.toList):Ext own stk hp s (upd hp a (.lst ws)) {s with heap:=h',toks:=tk}∧HeapOk P stk (upd hp a (.lst ws)) {s with heap:=h',toks:=tk}:=by
 have ha':hp a≠ac:=by rw[ha];intro z;cases z
 have ky:bB (Fz stk hp) (Fz stk (upd hp a (.lst ws))) s.heap h':=by
  intro b ob i1_ g;refine i1_.elim λe n=>?_
  have:b≠a:=by rintro rfl;exact ha' e
  exact⟨⟨by rw[upd_ne this];exact e,n⟩,(sb.2 b this).trans g⟩
 exact⟨Ext.change ok ha sb (by obtain⟨n,g⟩:=pl;exact⟨_,g⟩),ok.change ha sb ⟨ys,pl,r ky⟩⟩
theorem m9{own stk:Addr→Prop}{hp:Hp}{s:af}{a:Addr}{es fs:List (Int×V)}{ep:Nat}{h':Heap}{tk:Nat}{kvs:List (Int×Value)}(ok:HeapOk P stk hp s)(ha:hp a=some (.dict es ep))(sb:bv a s.heap h')(dc:h'.DictOf (intKind P.prog P.w) a kvs)
 (r:∀ep',bB (Fz stk hp) (Fz stk (upd hp a (.dict fs ep'))) s.heap h'→ER P.nm (Fz stk (upd hp a (.dict fs ep'))) h' fs kvs):∃ep',Ext own stk hp s (upd hp a (.dict fs ep')) {s with heap:=h',toks:=tk}∧HeapOk P stk (upd hp a (.dict fs ep')) {s with heap:=h',toks:=tk}:=by
 have ha':hp a≠ac:=by rw[ha];intro z;cases z
 obtain⟨ep',dc'⟩:=dc.dictAt
 have ky:bB (Fz stk hp) (Fz stk (upd hp a (.dict fs ep'))) s.heap h':=by
  intro b ob i1_ g;refine i1_.elim λe n=>?_
  have:b≠a:=by rintro rfl;exact ha' e
  exact⟨⟨by rw[upd_ne this];exact e,n⟩,(sb.2 b this).trans g⟩
 exact⟨ep',Ext.change ok ha sb (by obtain⟨o,_,g,_⟩:=dc';exact⟨o,g⟩),ok.change ha sb ⟨kvs,dc',r ep' ky⟩⟩
theorem pI{A:ax}{s:af}{l:Addr}{items:Array Value}{k:Int}{t:Tok}{v:Value}{Q:Unit→af→Prop}{E:Value→af→Prop}(hp:s.heap.PlainList l items)(h0:0≤k)(hfit:k<2 ^ 63)(hn:k<items.size)
 (hQ:∀h',h'.PlainList l (items.setIfInBounds k.toNat v)→bv l s.heap h'→Q () {s with heap:=h'}):wpAny P.M A (setItem (.ref l) (.int k t) v) Q E s:=by
 refine hp.elim λn g=>?_
 have hT:s.TypeIs (.ref l) "list" :=⟨_,g,rfl⟩
 unfold setItem
 try with_reducible refine wpAny_holding ?_
 first|refine wpAny_bind (wpAny_pure ?_)|skip
 refine wpAny_bind (BI hT (by decide) ?_)
 refine wpAny_bind (wpAny_callSpecial?_slot (name:=ag "__setitem__") hT BL (eC BL hT entry_list_setitem ?_ (args_list_setitem _ _ _)))
 show wpAny _ _ (DO (.int k t)>>= _) _ _ s
 refine wpAny_bind (wpAny_listSubscript_int (fitsIndex_of h0 hfit) ?_)
 clear hfit
 obtain⟨j,rfl⟩:=Int.eq_ofNat_of_zero_le h0
 have hj:j<items.size:=by lia
 show wpAny _ _ ((seqItemAt l j>>= λr=>pure (r.map (j,·)))>>= _) _ _ s
 refine wpAny_bind (wpAny_bind (wpAny_seqItemAt g rfl (wpAny_pure ?_)))
 rw[Array.getElem?_eq_getElem hj]
 show wpAny _ _ (setSeqItemAt l j v>>= _) _ _ s
 have hfin:(s.heap.update l (cQ (·.setIfInBounds j v))).PlainList l (items.setIfInBounds j v):=⟨_,Eu (n:=n) g _⟩
 refine wpAny_bind (wpAny_setSeqItemAt g rfl ?_)
 first
  |exact wpAny_bind (wpAny_pure (wpAny_pure ⟨.none,rfl,wpAny_pure (hQ _ hfin (bD ..))⟩))
  |exact wpAny_pure ⟨.none,rfl,wpAny_pure (hQ _ hfin (bD ..))⟩
noncomputable def rD(o i v:V)(Q:Hp→Prop)(hp:Hp):Prop:=∃a k,o= .ref a∧i= .int k∧match hp a with
 |some (.lst vs)=>0≤k∧k<vs.length∧vs.length≤lim∧Q (upd hp a (.lst (vs.set k.toNat v)))
 |some (.dict es _)=>es.length≤lim∧∀ep',Q (upd hp a (.dict (je es k v) ep'))
 |_=>False
theorem vc{A:ax}{s:af}{hp:Hp}{stk:Addr→Prop}{o i v:V}{x y z:Value}{Q:Hp→Prop}{X:XP}(ok:HeapOk P stk hp s)(ro:P.VR stk hp s.heap o x)(ri:P.VR stk hp s.heap i y)(rv:P.VR stk hp s.heap v z)(h:rD o i v Q hp):
 T P no1 stk A (setItem x y z) hp s (λu hp' s'=>Q hp') X:=by
 obtain⟨a,k,rfl,rfl,h⟩:=h
 simp only[VRe]at ro ri
 subst ro
 obtain⟨t,rfl⟩:=ri
 cases ha:hp a with
 |none=>rw[ha]at h;exact h.elim
 |some ob=>
  rw[ha]at h
  cases ob with
  |lst vs=>
   obtain⟨h0,h1,hl,q⟩:=h
   refine(ok.obj _ _ ha).elim λxs r1_=>r1_.elim λe2_ r=>e2_.elim λn g=>?_
   have hz:xs.size=vs.length:=by rw[←r.length];simp
   unfold lim at hl
   have pl0:s.heap.PlainList a xs:=⟨n,g⟩
   refine pI pl0 h0 (by lia) (by lia) λh' pl sb=>?_
   obtain⟨e,ok'⟩:=listChanged (own:=no1) (tk:=s.toks) (ws:=vs.set k.toNat v) ok ha sb pl λky=>by
    rw[pN];exact VRs.set (rv.keep ky) (r.keep ky)
   exact⟨_,e,ok',q⟩
  |dict es ep=>
   obtain⟨hl,q⟩:=h
   refine(ok.obj _ _ ha).elim λkvs r1_=>r1_.elim λhd er=>?_
   replace hd:=hd.dictOf
   refine wpAny_setItem_pairs (knd:=intKind P.prog P.w) (k:=k) (jA _ _ _ _) hd (λh' hd' sb=>?_) ?_
   ·obtain⟨ep',e,ok'⟩:=m9 (own:=no1) (tk:=s.toks+1) (fs:=je es k v) ok ha sb hd' λep' ky=>ER.set (rv.keep ky) (er.keep ky)
    exact⟨_,e,ok',q ep'⟩
   ·have:=er.length;have:=dZ;lia
  |_=>exact h.elim
noncomputable def lE(o i:DE):DA:=λv Q X loc hp=>o (λov hp1=>i (λiv hp2=>rD ov iv v (λhp3=>Q loc hp3) hp2) (λk hp'=>X k loc hp') loc hp1) (λk hp'=>X k loc hp') loc hp
theorem SimG.item{o i:Expr}{pos:Pos}{Do Di:DE}(ho:bz P Fl d sc o Do)(hi:bz P Fl d sc i Di):SimG P Fl d sc (.Subscript o i pos) [] (lE Do Di):=by
 intro A env s Q X loc hp stk v x rm hs ev ok r hD
 rw[T,arm_assign_Subscript]
 refine wpAny_bind (wpAny_holding (wpAny_mono (ho A env s _ _ loc hp stk rm hs ev ok hD) (λov s1 hq=>?_) (by rintro e s1 ⟨hp1,e1,ok1,kk,hx,hfl⟩;exact⟨hp1,e1.of1,ok1,kk,loc,ev.step ok e1,hx,hfl⟩)))
 obtain⟨hp1,e1,ok1,u,q,ru⟩:=hq
 refine wpAny_bind (wpAny_holding (wpAny_mono (hi A env s1 _ _ loc hp1 stk rm hs (ev.step ok e1) ok1 q) (λiv s2 hq=>?_) (by rintro e s2 ⟨hp2,e2,ok2,kk,hx,hfl⟩;exact⟨hp2,(e1.trans e2).of1,ok2,kk,loc,ev.step ok (e1.trans e2),hx,hfl⟩)))
 obtain⟨hp2,e2,ok2,w,q2,rw2⟩:=hq
 refine wpAny_bind (wpAny_standAt (wpAny_bind (wpAny_holding (wpAny_mono (vc (X:=λy y y=>False) ok2 (d5 e2 ru) rw2 (d5 (e1.trans e2) r) q2) (λy s3 hq=>?_) (by rintro _ _ ⟨_,_,_,z⟩;exact z.elim)))))
 obtain⟨hp3,e3,ok3,q3⟩:=hq
 have eT:=(e1.trans e2).trans e3
 exact E7 ⟨hp3,eT.of1,ok3,loc,ev.step ok eT,q3⟩
noncomputable def wB(o i:V)(Q:Hp→Prop)(hp:Hp):Prop:=∃a k es ep,o= .ref a∧i= .int k∧hp a=some (.dict es ep)∧es.length≤lim∧(eAt es k).isSome=true∧∀ep',Q (upd hp a (.dict (eDel es k) ep'))
noncomputable def AJ(o i:DE):DS:=λQ X loc hp=>o (λov hp1=>i (λiv hp2=>wB ov iv (λhp3=>Q .next loc hp3) hp2) (λk hp'=>X k loc hp') loc hp1) (λk hp'=>X k loc hp') loc hp
theorem vG{A:ax}{s:af}{hp:Hp}{stk:Addr→Prop}{o i:V}{x y:Value}{Q:Hp→Prop}{X:XP}(ok:HeapOk P stk hp s)(ro:P.VR stk hp s.heap o x)(ri:P.VR stk hp s.heap i y)(h:wB o i Q hp):
 T P no1 stk A (delItem x y) hp s (λz hp' s'=>Q hp') X:=by
 obtain⟨a,k,es,ep,rfl,rfl,ha,hl,hs,q⟩:=h
 simp only[VRe]at ro ri
 subst ro
 obtain⟨t,rfl⟩:=ri
 refine(ok.obj _ _ ha).elim λkvs r1_=>r1_.elim λhd er=>?_
 replace hd:=hd.dictOf
 obtain⟨v,hv⟩:=qm.mp hs
 obtain⟨y,hy,_⟩:=er.at hv
 delta T delItem
 refine wpAny_holding ?_
 refine wpAny_bind (BI hd.typeIs (by decide) ?_)
 refine wpAny_bind (wpAny_callSpecial?_slot (name:=ag "__delitem__") hd.typeIs PySem.F.slot_dict_delitem
  (pz PySem.F.slot_dict_delitem hd.typeIs PySem.F.entry_dict_delitem (PySem.F.args_dict_delitem_2 _ _) (meets_dict_delitem_pairs (intKind P.prog P.w) a (k:=k) (jA _ _ _ _)) ⟨kvs,hd,?_,by rw[hy];rfl,λh' hd' sb=>?_⟩))
 ·have:=er.length;have:=dZ;lia
 ·refine(m9 (own:=no1) (tk:=s.toks+1) (fs:=eDel es k) ok ha sb hd' λep' ky=>ER.del (er.keep ky)).elim λep' r1_=>r1_.elim λe ok'=>?_
  exact wpAny_pure ⟨_,e,ok',q ep'⟩
theorem SimS.del{o i:Expr}{tp pos:Pos}{Do Di:DE}(ho:bz P Fl d sc o Do)(hi:bz P Fl d sc i Di):SimS P Fl d sc (.Delete [.Subscript o i tp] pos) (AJ Do Di):=by
 intro A env s Q X loc hp stk rm hs ev ok hD
 refine wpAny_Delete (wpAny_deleteEach_cons (delete_Subscript (E2 ho rm hs ev ok hD λov x hp1 s1 e1 ev1 ok1 q1 r1=>?_)))
 refine wpAny_mono (hi A env s1 _ _ loc hp1 stk rm hs ev1 ok1 q1) (λiv s2 hq=>?_) (by rintro e s2 ⟨hp2,e2,ok2,kk,hx,hfl⟩;exact⟨hp2,(e1.trans e2).of1,ok2,kk,loc,ev.step ok (e1.trans e2),hx,hfl⟩)
 obtain⟨hp2,e2,ok2,w,q2,rw2⟩:=hq
 refine wpAny_mono (vG (X:=λy y y=>False) ok2 (d5 e2 r1) rw2 q2) (λy s3 hq=>?_) (by rintro _ _ ⟨_,_,_,z⟩;exact z.elim)
 obtain⟨hp3,e3,ok3,q3⟩:=hq
 have eT:=(e1.trans e2).trans e3
 exact wpAny_deleteEach_nil ⟨hp3,eT.of1,ok3,.next,loc,ev.step ok eT,q3,trivial⟩
noncomputable def yL(i:Nat):DE:=λQ z loc hp=>∃a us,loc i=some (.ref a)∧hp a=some (.lst us)∧Q (.lst us) (del hp a)
theorem Sim.frz{i:Nat}{x:Str}{pos:Pos}(hx:P.nm i=x)(hk:(match sc.names.lookup x with|some .local=>true|some .cell=>true|some .free=>true|_=>false)=true)
 (hd:(x==("__debug__" :Str))=false)(hc:(x==("__classdict__" :Str))=false):bz P Fl d sc (.Name x pos) (yL i):=by
 rintro A env s Q X loc hp stk rm hs ev ok ⟨a,us,h1,h2,q⟩
 refine wpAny_mono (Sim.var (Fl:=Fl) (d:=d) hx hk hd hc A env s (λv hp'=>v= .ref a∧hp'=hp) X loc hp stk rm hs ev ok ⟨_,h1,rfl,rfl⟩) (λy s1 hq=>?_) λw w z=>z
 obtain⟨hp1,e1,ok1,v,⟨hv,hh⟩,r⟩:=hq
 subst hv hh
 simp only[VRe]at r
 subst r
 obtain⟨xs,pl,rx⟩:=ok1.obj _ _ h2
 refine⟨del hp1 a,e1.trans (Ext.drop a),ok1.drop a,.lst us,q,?_⟩
 simp only[VRe]
 have ky:bB (Fz stk hp1) (Fz stk (del hp1 a)) s1.heap s1.heap:=by
  intro b ob i1_ g;refine i1_.elim λe n=>?_
  refine⟨⟨?_,n⟩,g⟩
  by_cases z:b=a
  ·subst z;simp
  ·rw[del_ne z];exact e
 exact⟨a,xs,rfl,⟨by simp,ok1.apart a (by rw[h2];intro z;cases z)⟩,pl,rx.keep ky⟩
end Mine
namespace Mine
variable{P:cH}{Fl:f9}{d:Nat}{sc:Scope}{ex:Nat→Value}
noncomputable def cw(C:Addr)(j:Nat)(hp:Hp):V→Prop
 | .ref a=>∃dd fs,hp a=some (.inst C dd)∧hp dd=some (.ns fs)∧(fs.all λp=>decide (p.1≠j))=true
 | .obj C' fs=>C'=C∧(fs.all λp=>decide (p.1≠j))=true
 |_=>False
structure mo(K:Frag)(C:Addr)(n:Str)(f:Addr):Prop extends ClsP K C where
 fn:findIn K (.ref C) n=some (some (.ref f))
 ty:typeIn K (.ref f)=some (.type "function")
theorem sj{es:Array DictEntry}{m:Nat}{n:Str}{c:Value}(hk:StrKeys es)(h:nsFind es n=ac):lookIn n {cls:=c,data:=.dict es m}=some ac:=by
 unfold nsFind findBy at h
 unfold lookIn
 dsimp only
 rw[v0]
 cases q:BU (λe=>e.key.isStr n) es with
 |some e=>rw[q]at h;cases h
 |none=>
  have:es.toList.any (·.refKey)=false:=by
   rw[jm];intro e he;refine(hk e (by simpa using he)).elim λn r1_=>r1_.elim λt h=>?_;simp[tU,h]
  simp only[this];rfl
theorem p8(inj:∀i j,P.nm i=P.nm j→i=j){C:Addr}{j:Nat}{s:af}{hp:Hp}{stk:Addr→Prop}{v:V}{x:Value}(ok:HeapOk P stk hp s)(r:P.VR stk hp s.heap v x)(h:cw C j hp v):
 ∃a ox od,x= .ref a∧InstAt s.heap a ox C (some od)∧lookIn (P.nm j) od=some ac:=by
 have key:∀{dd:Addr}{fs:List (Nat×V)}{m:Str→Option Value}{c:Nat},uT s.heap dd m c→(∀n y,m n=some y→∃p∈fs,P.nm p.1=n)→(fs.all λp=>decide (p.1≠j))=true→∃od,s.heap.get? dd=some od∧lookIn (P.nm j) od=some ac:=by
  intro dd fs m c i1_ cov hall;refine i1_.elim λes r2_=>r2_.elim λk r3_=>r3_.elim λg r4_=>r4_.elim λz r6_=>r6_.elim λhk hf=>?_
  refine⟨_,g,sj hk ?_⟩
  rw[hf]
  cases q:m (P.nm j)with
  |none=>rfl
  |some y=>
   refine(cov _ _ q).elim λp r1_=>r1_.elim λhp e=>?_
   have:=b4.mp hall p hp
   simp only[ne_eq,decide_not,cE,decide_eq_false_iff_not]at this
   exact absurd (inj _ _ e) this
 cases v<;>first|exact h.elim|skip
 ·obtain⟨rfl,hall⟩:=h
  obtain⟨a,dd,m,rfl,_,_,g,ns,rf,cov⟩:=r
  obtain⟨od,gd,hl⟩:=key ns cov hall
  exact⟨a,_,od,rfl,⟨g,rfl,rfl,gd⟩,hl⟩
 ·refine h.elim λdd r1_=>r1_.elim λfs r2_=>r2_.elim λh1 r3_=>r3_.elim λh2 hall=>?_
  cases r
  have g:=ok.obj _ _ h1
  refine(ok.obj _ _ h2).elim λm r1_=>r1_.elim λns r2_=>r2_.elim λrf cov=>?_
  refine(key ns cov hall).elim λod r1_=>r1_.elim λgd hl=>?_
  exact⟨_,_,od,rfl,⟨g,rfl,rfl,gd⟩,hl⟩
theorem Meth.own(inj:∀i j,P.nm i=P.nm j→i=j){mg mb:Str→Option Value}(tp:dG P mg mb){C f:Addr}{j:Nat}{n:Str}(hj:P.nm j=n)(c:mo P.K C n f):Meth P n (cw C j) (.ref f):=by
 subst hj
 intro A s hp stk v x pl Q E ok r h q
 obtain⟨a,ox,od,rfl,I,hl⟩:=p8 inj ok r h
 exact method_fn (tp.kin.keeps ok.base) I c.ga c.gt c.fn c.ty (by unfold shadowIn;simp only[hl];rfl) (q s.toks)
theorem Sim.methStar(inj:∀i j,P.nm i=P.nm j→i=j){mg mb:Str→Option Value}(tp:dG P mg mb){C f:Addr}{j:Nat}{n:Str}(hj:P.nm j=n)(c:mo P.K C n f)(hget:specialIn P.K (.ref f) "__get__" =some (some (.builtin "function.__get__")))(htk:takesIn P.K (.ref f)=some false)(hcls:(clsIn P.K C).isSome=true)(hcop:copiedNames.contains n=false)(hfi:fnIn P.K f=true)
 {o:Expr}{apos pos:Pos}{es:List Expr}{Dc:DC}{Do:DE}{D:kS}(ho:bz P Fl d sc o Do)(hr:SimR P Fl d sc pos es D)(hf:OkK P Fl d (.ref f) Dc)
 (hbase:∀env,attributeBase o n env (eval o env)=eval o env)(hmany:∀env,((backTo pos (starEach es env)).all (λx=> !x.1))=false):
 bz P Fl d sc (.Call (.Attribute o n apos) es [] pos) (b7 (cw C j) Dc Do D):=by
 subst hj
 intro A env s Q X loc hp stk rm hs ev ok hD
 rw[T,Fg,hbase env]
 refine wpAny_bind ((ho A env s _ X loc hp stk rm hs ev ok hD).thn λx hp1 s1 e1 ok1 hq=>?_)
 obtain⟨v,⟨hR,q⟩,r⟩:=hq
 refine wpAny_bind (wpAny_standAt ?_)
 have hc:methodCallForm (es.length+([]:List Keyword).length) (backTo pos (starEach es env)) (backToKw pos (keywordEach [] env))=false:=by
  show((backTo pos (starEach es env)).all (λx=> !x.1)&&true&&_)=false
  rw[hmany env];rfl
 delta methodCall calleeOf methodCallPos
 rw[hc,if_neg (by decide)]
 obtain⟨a,ox,od,rfl,I,hl⟩:=p8 inj ok1 r hR
 have X':=tp.kin.keeps ok1.base
 refine(qm.mp hcls).elim λcd hcd=>?_
 have hfo:findObj P.K C (some od) (P.nm j)=some (.bind (.builtin "function.__get__") (.ref f)):=by
  unfold findObj
  rw[hcd,dT,c.fn,dT]
  simp only[hget,htk,dT,W.ownOf,hcop,AA]
  cases cd.hasDict<;>simp[hl]
 refine wpAny_bind (wpAny_holding (wpAny_bind (get_bind X' I c.ga hfo c.gt ?_)))
 refine wpAny_call (fn_get (s:={s1 with toks:=s1.toks+1}) X' c.ty ?_)
 show wpAny _ _ (handedOut (.ref s1.heap.objs.size)) _ _ _
 rw[xi rfl]
 refine wpAny_pure (wpAny_pure (wpAny_bind ?_))
 rw[if_pos (show(!false||apos.endLine==pos.line)=true from rfl)]
 refine wpAny_pure ?_
 generalize hH:s1.heap.push (methodObj (.ref f) (.ref a))=H
 have k2:∀b o,s1.heap.get? b=some o→H.get? b=some o:=λb o e=>by rw[←hH];exact aj _ e
 have gq:H.get? s1.heap.objs.size=some (methodObj (.ref f) (.ref a)):=by rw[←hH];exact aq _ rfl
 have e2:Ext no1 stk hp1 s1 hp1 {s1 with heap:=H,toks:=s1.toks+1}:=Ext.grow (stk:=stk) k2
 have ok2:HeapOk P stk hp1 {s1 with heap:=H,toks:=s1.toks+1}:=ok1.grow k2
 have fq:Fz stk hp1 s1.heap.objs.size:=gW ok1
 refine jJ (R:=MethP P.K s1.heap.objs.size f (.ref a)) (λh k=>keeps_M hfi h k) ?_
 have e12:=e1.trans e2
 refine wpAny_mono (hr (.ref s1.heap.objs.size) A env _ _ X loc hp1 stk rm hs (ev.step ok e12) ok2 q) (λaa s3 hq=>?_) λy y z=>z.back P e12
 obtain⟨hp3,e3,ok3,hkw,vs,q3,r3⟩:=hq
 have gq3:s3.heap.get? s1.heap.objs.size=some (methodObj (.ref f) (.ref a)):=e3.same fq.1 (λz=>z) (.inl fq.2) gq
 refine⟨⟨gq3,tp.kin.keeps ok3.base⟩,?_⟩
 rw[hkw]
 have e13:=e12.trans e3
 refine wpAny_mono (wpAny_call (method_call gq3 (hf A s3 Q X hp3 stk (v::vs) (.ref a::aa.pos) rm (ev.step ok e13).frs ok3 (vCons (d5 (e2.trans e3) r) r3) q3))) (λy y z=>z.back P e13) λy y z=>z.back P e13
theorem Sim.clsAttr{mg mb:Str→Option Value}(tp:dG P mg mb){C:Addr}{n:Str}{l:List Nat}{tk:Tok}{x:Str}{np pos:Pos}(hn:NameIs P sc (.Name x np) (.ref C))(hr:readsIn P.K C (.type "type")=true)(he:findCls P.K (.ref C) (.type "type") n=some (.val (.str ⟨l.toArray⟩ tk))):
 bz P Fl d sc (.Attribute (.Name x np) n pos) (aJ (.str l)):=by
 intro A env s Q X loc hp stk rm hs ev ok hq
 rw[T,jO]
 show wpAny _ _ (eval (.Name x np) env>>= _) _ _ s
 refine wpAny_bind (hn A env s loc hp stk _ _ hs ev ok ?_)
 refine wpAny_bind (wpAny_standAt (wpAny_bind (wpAny_holding (cls_value (tp.kin.keeps ok.base) hr he rfl ?_))))
 exact wpAny_bind (iM (wpAny_pure (fV ok hq wf)))
end Mine
namespace Mine
variable{P:cH}{Fl:f9}{d:Nat}{sc:Scope}{ex:Nat→Value}
theorem dY.tc{A:ax}{C:Addr}{rest:List Value}(r:dY (d+1) A):dY d (A.under (.builtin "type.__call__" ⟨.ref C::rest,[]⟩)):=by
 have hw:(BQ "type.__call__" ⟨.ref C::rest,[]⟩).weight=1:=rfl
 have hu:(BQ "type.__call__" ⟨.ref C::rest,[]⟩).cUnits=1:=rfl
 refine⟨?_,?_,λz=>r.hd (kf _)⟩
 ·have:=r.depth;show A.depth+_+d<_;rw[hw];lia
 ·have:=r.units;show A.units+_+8*d+128<_;rw[hu];lia
theorem mO{A:ax}{C:Addr}{rest:List Value}:(A.under (.builtin "type.__call__" ⟨.ref C::rest,[]⟩)).frames=A.frames:=by
 show pushEnvs [] A.frames=A.frames
 cases A.frames<;>rfl
structure MakeF(K:Frag)(C fI:Addr):Prop where
 mak:makesIn K C=true
 init:findIn K (.ref C) "__init__" =some (some (.ref fI))
 ty:typeIn K (.ref fI)=some (.type "function")
theorem makeCore{A:ax}{mg mb:Str→Option Value}(tp:dG P mg mb){C fI:Addr}(F:MakeF P.K C fI){s:af}{stk:Addr→Prop}{hp:Hp}{xs:List Value}{R:qs→af→Prop}(ok:HeapOk P stk hp s)
 (h:∀h',(∀b o,s.heap.get? b=some o→h'.get? b=some o)→h'.get? s.heap.objs.size=some emptyDict→h'.get? (s.heap.objs.size+1)=some (instObj C s.heap.objs.size)→
  codeAny P.M (A.under (.builtin "type.__call__" ⟨.ref C::xs,[]⟩)) (.call (.ref fI) ⟨.ref (s.heap.objs.size+1)::xs,[]⟩) (yR (s.heap.objs.size+1) R) {s with heap:=h'}):
 codeAny P.M A (.call (.ref C) ⟨xs,[]⟩) R s:=by
 have X:=tp.kin.keeps ok.base
 obtain⟨hh,g,dr,t,os⟩:=s
 refine make_core (makes_of X F.mak) (looks_findIn X F.init) (λself=>bind_fn X self F.ty) (.inl rfl) ?_
 refine h _ (λb o e=>aj _ (aj _ e)) (aj _ (aq _ rfl)) ?_
 have:=aq (hh.push emptyDict) (o:=instObj C hh.objs.size) rfl
 rw[eY]at this
 exact this
theorem ud{own stk:Addr→Prop}{hp:Hp}{s:af}{h':Heap}{C:Addr}(ok:HeapOk P stk hp s)(k:∀b o,s.heap.get? b=some o→h'.get? b=some o)(gd:h'.get? s.heap.objs.size=some emptyDict)(gx:h'.get? (s.heap.objs.size+1)=some (instObj C s.heap.objs.size)):
 hp (s.heap.objs.size+1)=ac∧hp s.heap.objs.size=ac∧Ext own stk hp s (upd (upd hp s.heap.objs.size (.ns [])) (s.heap.objs.size+1) (.inst C s.heap.objs.size)) {s with heap:=h'}∧HeapOk P stk (upd (upd hp s.heap.objs.size (.ns [])) (s.heap.objs.size+1) (.inst C s.heap.objs.size)) {s with heap:=h'}:=by
 have n0:=cX s.heap
 have n1:s.heap.get? (s.heap.objs.size+1)=ac:=by
  cases q:s.heap.get? (s.heap.objs.size+1)with
  |none=>rfl
  |some o=>exact absurd (a8 q) (et.mpr (gb _))
 have f0:=fz_of_new ok n0
 have f1:=fz_of_new ok n1
 have ne:(s.heap.objs.size+1:Nat)≠s.heap.objs.size:=by lia
 have ky:∀b o,s.heap.get? b=some o→b≠s.heap.objs.size∧b≠s.heap.objs.size+1:=λb o g=>⟨(by rintro rfl;rw[n0]at g;cases g),(by rintro rfl;rw[n1]at g;cases g)⟩
 have hE:∀b,b≠s.heap.objs.size→b≠s.heap.objs.size+1→upd (upd hp s.heap.objs.size (.ns [])) (s.heap.objs.size+1) (.inst C s.heap.objs.size) b=hp b:=λb h1 h2=>by rw[upd_ne h2,upd_ne h1]
 have kyF:bB (Fz stk hp) (Fz stk (upd (upd hp s.heap.objs.size (.ns [])) (s.heap.objs.size+1) (.inst C s.heap.objs.size))) s.heap h':=λa o f g=>⟨⟨by rw[hE a (ky a o g).1 (ky a o g).2];exact f.1,f.2⟩,k a o g⟩
 refine⟨f1.1,f0.1,.exact (λb o x x g=>k b o g) (λb o g=>⟨o,k b o g⟩) (λb o x g d=>⟨o,k b o g,d⟩) (λb e n=>?_) rfl rfl,⟨λb o e=>?_,λb e z=>?_,λb o e=>k b o (ok.base b o e),λb e=>?_,ok.stkn,λa z=>(by obtain⟨o,g⟩:=ok.stkl a z;exact⟨o,k a o g⟩),ok.gens⟩⟩
 ·by_cases q1:b=s.heap.objs.size
  ·subst q1;exact n0
  ·by_cases q2:b=s.heap.objs.size+1
   ·subst q2;exact n1
   ·rw[hE b q1 q2]at n;exact absurd e n
 ·by_cases q2:b=s.heap.objs.size+1
  ·subst q2;rw[upd_same]at e;cases e;exact gx
  ·by_cases q1:b=s.heap.objs.size
   ·subst q1;rw[upd_ne q2,upd_same]at e;cases e
    exact⟨λx=>ac,⟨#[],0,gd,aD _,(by intro e he;simp at he),λx=>rfl⟩,by simp only[VRfe],λn y z=>(nomatch z)⟩
   ·rw[hE b q1 q2]at e
    exact(ok.obj b o e).keep kyF λo g=>k b o g
 ·by_cases q2:b=s.heap.objs.size+1
  ·subst q2;exact f1.2 z
  ·by_cases q1:b=s.heap.objs.size
   ·subst q1;exact f0.2 z
   ·rw[hE b q1 q2]at e;exact ok.apart b e z
 ·have nb:∀c,s.heap.get? c=ac→P.H₀.get? c=ac:=λc h=>by
   cases q:P.H₀.get? c with
   |none=>rfl
   |some o=>have:=ok.base c o q;rw[h]at this;cases this
  by_cases q2:b=s.heap.objs.size+1
  ·subst q2;exact nb _ n1
  ·by_cases q1:b=s.heap.objs.size
   ·subst q1;exact nb _ n0
   ·rw[hE b q1 q2]at e;exact ok.new b e
noncomputable def wy(C:Addr)(Di:DC):DC:=λvs Q X hp=>∀x dd,hp x=ac→hp dd=ac→x≠dd→Di (.ref x::vs) (λv hp'=>v= .none∧Q (.ref x) hp') X (upd (upd hp dd (.ns [])) x (.inst C dd))
theorem OkK.make{mg mb:Str→Option Value}(tp:dG P mg mb){C fI:Addr}(F:MakeF P.K C fI){Di:DC}(h:OkK P Fl d (.ref fI) Di):OkK P Fl (d+1) (.ref C) (wy C Di):=by
 intro A s Q X hp stk vs xs rm fs ok r hD
 refine makeCore tp F ok λh' k gd gx=>?_
 obtain⟨p1,p0,e1,ok1⟩:=ud (own:=no1) ok k gd gx
 have:=h (A.under (.builtin "type.__call__" ⟨.ref C::xs,[]⟩)) {s with heap:=h'} _ X _ stk (.ref (s.heap.objs.size+1)::vs) (.ref (s.heap.objs.size+1)::xs) rm.tc ((fs.step e1).around mO) ok1 (vCons rj (jg e1 r)) (hD _ _ p1 p0 (by show(s.heap.objs.size+1:Nat)≠s.heap.objs.size;lia))
 refine k9 this λrr s2 z=>?_
 unfold yR
 rcases rr with e|(y|_|_|_)
 ·exact z.back P e1
 all_goals first|exact z.elim|skip
 obtain⟨hp2,e2,ok2,v,⟨rfl,q⟩,rv⟩:=z
 simp only[VRe]at rv
 exact⟨rv,hp2,e1.trans e2,ok2,_,q,rj⟩
noncomputable def i5(C:Addr)(Di:DC):DC:=λvs Q X hp=>∀x dd,hp x=ac→hp dd=ac→x≠dd→Di (.ref x::vs) (λv hp'=>v= .none∧∃fs,hp' x=some (.inst C dd)∧hp' dd=some (.ns fs)∧Q (.obj C fs) (del (del hp' x) dd)) X (upd (upd hp dd (.ns [])) x (.inst C dd))
theorem p6{stk:Addr→Prop}{hp:Hp}{h:Heap}(a:Addr):bB (Fz stk hp) (Fz stk (del hp a)) h h:=by
 rintro b ob ⟨e,n⟩ g
 refine⟨⟨?_,n⟩,g⟩
 by_cases z:b=a
 ·subst z;simp
 ·rw[del_ne z];exact e
theorem OkK.makeF{mg mb:Str→Option Value}(tp:dG P mg mb){C fI:Addr}(F:MakeF P.K C fI){Di:DC}(h:OkK P Fl d (.ref fI) Di):OkK P Fl (d+1) (.ref C) (i5 C Di):=by
 intro A s Q X hp stk vs xs rm fs ok r hD
 refine makeCore tp F ok λh' k gd gx=>?_
 obtain⟨p1,p0,e1,ok1⟩:=ud (own:=no1) ok k gd gx
 have hne:(s.heap.objs.size+1:Nat)≠s.heap.objs.size:=by lia
 have:=h (A.under (.builtin "type.__call__" ⟨.ref C::xs,[]⟩)) {s with heap:=h'} _ X _ stk (.ref (s.heap.objs.size+1)::vs) (.ref (s.heap.objs.size+1)::xs) rm.tc ((fs.step e1).around mO) ok1 (vCons rj (jg e1 r)) (hD _ _ p1 p0 hne)
 refine k9 this λrr s2 z=>?_
 unfold yR
 rcases rr with e|(y|_|_|_)
 ·exact z.back P e1
 all_goals first|exact z.elim|skip
 obtain⟨hp2,e2,ok2,v,⟨rfl,fs',h1,h2,q⟩,rv⟩:=z
 simp only[VRe]at rv
 refine⟨rv,_,(e1.trans e2).trans ((Ext.drop (own:=no1) (stk:=stk) (s.heap.objs.size+1)).trans (Ext.drop (own:=no1) (stk:=stk) s.heap.objs.size)),(ok2.drop _).drop _,.obj C fs',q,?_⟩
 have g1:=ok2.obj _ _ h1
 obtain⟨m,ns,rf,cov⟩:=ok2.obj _ _ h2
 have ky:=λa o f g=>(p6 (stk:=stk) (hp:=del hp2 (s.heap.objs.size+1)) (h:=s2.heap) s.heap.objs.size) a o (p6 (stk:=stk) (hp:=hp2) (s.heap.objs.size+1) a o f g).1 g
 simp only[VRe]
 refine⟨_,_,m,rfl,⟨?_,ok2.apart _ (by rw[h1];intro z;cases z)⟩,⟨by simp,ok2.apart _ (by rw[h2];intro z;cases z)⟩,g1,ns,rf.keep ky,cov⟩
 rw[del_ne hne];simp
noncomputable def ta(C:Addr)(Di:DC):DC:=λvs Q X hp=>∀x,hp x=ac→Di (.ref x::vs) (λv hp'=>v= .none∧Q (.ref x) hp') X (upd hp x (.sl C []))
theorem OkK.makeS{mg mb:Str→Option Value}(tp:dG P mg mb){C fI:Addr}(F:MakeF P.K C fI){Di:DC}(h:OkK P Fl d (.ref fI) Di):OkK P Fl (d+1) (.ref C) (ta C Di):=by
 intro A s Q X hp stk vs xs rm fs ok r hD
 refine makeCore tp F ok λh' k gd gx=>?_
 have n0:=cX s.heap
 have n1:s.heap.get? (s.heap.objs.size+1)=ac:=by
  cases q:s.heap.get? (s.heap.objs.size+1)with
  |none=>rfl
  |some o=>exact absurd (a8 q) (et.mpr (gb _))
 have f0:=fz_of_new ok n0
 have hne:(s.heap.objs.size:Nat)≠s.heap.objs.size+1:=by lia
 have p1:=(fz_of_new ok n1).1
 have e1:Ext no1 stk hp s (upd hp (s.heap.objs.size+1) (.sl C [])) {s with heap:=h'}:=Ext.track (tk:=s.toks) k n1
 have ok1:HeapOk P stk (upd hp (s.heap.objs.size+1) (.sl C [])) {s with heap:=h'}:=ok.track (tk:=s.toks) k n1 ⟨#[],_,_,gx,⟨by rw[upd_ne hne];exact f0.1,f0.2⟩,gd,by simp only[SRe]⟩
 have:=h (A.under (.builtin "type.__call__" ⟨.ref C::xs,[]⟩)) {s with heap:=h'} _ X _ stk (.ref (s.heap.objs.size+1)::vs) (.ref (s.heap.objs.size+1)::xs) rm.tc ((fs.step e1).around mO) ok1 (vCons rj (jg e1 r)) (hD _ p1)
 refine k9 this λrr s2 z=>?_
 unfold yR
 rcases rr with e|(y|_|_|_)
 ·exact z.back P e1
 all_goals first|exact z.elim|skip
 obtain⟨hp2,e2,ok2,v,⟨rfl,q⟩,rv⟩:=z
 simp only[VRe]at rv
 exact⟨rv,hp2,e1.trans e2,ok2,_,q,rj⟩
end Mine
namespace Mine
variable{P:cH}{Fl:f9}{d:Nat}{sc:Scope}{ex:Nat→Value}
noncomputable def kE(i0 ir:Nat):List V→Hp→Option (List (Nat×V)):=λvs z=>match vs with|v::us=>if us.length≤lim then some [(i0,v),(ir,.tup us)]else ac|_=>ac
noncomputable def kD(i0 i1 ir:Nat):List V→Hp→Option (List (Nat×V)):=λvs z=>match vs with|v::u::us=>if us.length≤lim then some [(i0,v),(i1,u),(ir,.tup us)]else ac|_=>ac
theorem wK{A:ax}{s:af}{hp:Hp}{stk:Addr→Prop}{us:List V}{ys:List Value}{Q:Value→af→Prop}{E:Value→af→Prop}(ok:HeapOk P stk hp s)(r:P.VRs stk hp s.heap us ys)(hl:us.length≤lim)
 (q:∀t h',(∀b o,s.heap.get? b=some o→h'.get? b=some o)→P.VR stk hp h' (.tup us) t→Q t {s with heap:=h'}):wpAny P.M A (newTuple ys) Q E s:=by
 have k:∀b o,s.heap.get? b=some o→(s.heap.push {cls:=.type "tuple",dict:=none,data:=.seq ys.toArray}).get? b=some o:=λb o e=>aj _ e
 refine dm (q _ _ k ?_) ?_
 ·simp only[VRe]
  exact⟨_,ys.toArray,rfl,gW ok,⟨0,aq _ rfl⟩,by simpa using gG k r⟩
 ·have:=r.length;have:=dZ;show ys.toArray.size≤sizeLine;simp;lia
theorem BindOk.star1{fd:FuncData}{i0 ir:Nat}(hb:∀x rest,bindArgs fd ⟨x::rest,[]⟩=newTuple rest>>= λt=>pure [(P.nm i0,x),(P.nm ir,t)]):BindOk P fd (kE i0 ir):=by
 intro A s hp stk vs xs ps Q E ok r h q
 rcases vs with _|⟨v,us⟩
 ·cases h
 ·by_cases hl:us.length≤lim
  ·cases (if_pos hl).symm.trans h
   obtain⟨y,ys,rfl,p,r⟩:=r
   rw[hb]
   refine wpAny_bind (wK ok r hl λt h' k rt=>wpAny_pure (q _ h' k ?_))
   simp only[BRe]
   exact⟨_,_,rfl,qM k p,_,_,rfl,rt,rfl⟩
  ·cases (if_neg hl).symm.trans h
theorem BindOk.star2{fd:FuncData}{i0 i1 ir:Nat}(hb:∀x y rest,bindArgs fd ⟨x::y::rest,[]⟩=newTuple rest>>= λt=>pure [(P.nm i0,x),(P.nm i1,y),(P.nm ir,t)]):BindOk P fd (kD i0 i1 ir):=by
 intro A s hp stk vs xs ps Q E ok r h q
 rcases vs with _|⟨v,_|⟨u,us⟩⟩
 ·cases h
 ·cases h
 ·by_cases hl:us.length≤lim
  ·cases (if_pos hl).symm.trans h
   obtain⟨y,ys,rfl,p,z,zs,rfl,p2,r⟩:=r
   rw[hb]
   refine wpAny_bind (wK ok r hl λt h' k rt=>wpAny_pure (q _ h' k ?_))
   simp only[BRe]
   exact⟨_,_,rfl,qM k p,_,_,rfl,qM k p2,_,_,rfl,rt,rfl⟩
  ·cases (if_neg hl).symm.trans h
end Mine
namespace Mine
variable{P:cH}{Fl:f9}{d:Nat}{sc:Scope}{ex:Nat→Value}
noncomputable def yJ(i:Nat)(e:DE)(a b:DS):DS:=λQ X loc hp=>e (λv hp1=>∃c,gC v .none=some c∧if c then a Q X (upd loc i v) hp1 else b Q X (upd loc i v) hp1) (λk hp'=>X k loc hp') loc hp
theorem SimS.ifNamed(inj:∀i j,P.nm i=P.nm j→i=j){i:Nat}{x:Str}{e:Expr}{k:Nat}{p np cp kp pos:Pos}{xs ys:List Stmt}{D:DE}{a b:DS}(hx:P.nm i=x)(hk:(match sc.names.lookup x with|some .local=>true|some .cell=>true|_=>false)=true)(he:bz P Fl d sc e D)(ha:SimSs P Fl d sc xs a)(hb:SimSs P Fl d sc ys b):
 SimS P Fl d sc (.If (.Compare (.NamedExpr (.Name x p) e np) [.Is] [.Constant .none k kp] cp) xs ys pos) (yJ i D a b):=by
 subst hx
 intro A env s Q X loc hp stk rm hs ev ok hD
 refine wpAny_If (wpAny_isTrue_Compare1 (wpAny_NamedExpr (E2 he rm hs ev ok hD λv y hp1 s1 e1 ev1 ok1 hq r=>?_)) rfl)
 obtain⟨c,hc,q⟩:=hq
 refine wpAny_assign_Name (storeVar inj (by rw[hs];exact hk) ev1 ok1 r λs2 e2 ev2 ok2=>?_)
 have e12:=e1.of1.trans (e2.wider ownI_E)
 have r2:P.VR stk hp1 s2.heap v y:=kb ev1 (e2.wider ownI_E) r
 refine Ar ?_
 obtain⟨pl,eq⟩:=isOne_plain r2 (vNone (F:=Fz stk hp1) (h:=s2.heap)) hc
 refine Em pl ?_
 rw[eq]
 refine wpAny_truthy_bool ?_
 cases c with
 |true=>exact T.nxt e12 (ha A env s2 Q X _ hp1 stk rm hs ev2 ok2 q)
 |false=>exact T.nxt e12 (hb A env s2 Q X _ hp1 stk rm hs ev2 ok2 q)
noncomputable def wm(i j:Nat)(e:DE):DS:=λQ X loc hp=>e (λv hp1=>∃u w,v= .tup [u,w]∧Q .next (upd (upd loc j w) i u) hp1) (λk hp'=>X k loc hp') loc hp
theorem SimS.swap(inj:∀i j,P.nm i=P.nm j→i=j){i j:Nat}{ts:List Expr}{k:Nat}{tp pos:Pos}{e:Expr}{D:DE}(hd:0<d)(hi:sc.names.lookup (P.nm i)=some .local)(hj:sc.names.lookup (P.nm j)=some .local)(h:bz P Fl d sc e D)
 (hs':∀env:Env,swapsWithSole [.Tuple ts k tp] e pos.line env=pure false)(hw:∀env:Env,env.scope=sc→swappedStores [.Tuple ts k tp] e env=pure (some [P.nm i,P.nm j])):SimS P Fl d sc (.Assign [.Tuple ts k tp] e pos) (wm i j D):=by
 intro A env s Q X loc hp stk rm hs ev ok hD
 refine Assign_Tuple_swapped (E2 h rm hs ev ok hD λv x hp1 s1 e1 ev1 ok1 hq r=>?_) (hs' env) (hw env hs)
 obtain⟨u,w,hv,q⟩:=hq
 subst hv
 obtain⟨a,xs,rfl,f,⟨n,g⟩,rx⟩:=r
 have hx:=rx.length
 have hz:xs.size=2:=by rw[←fB];exact hx
 show wpAny _ _ (unpackItems (.ref a) 2 ac) _ _ _
 rw[←hz]
 refine wpAny_unpackItems_tuple (rm.hd hd) (items:=xs) ⟨_,g,rfl,n,rfl⟩ λh' kp=>?_
 have kp':∀b o,s1.heap.get? b=some o→h'.get? b=some o:=λb o e=>kp b o (gy (a8 e)) e
 have e2:Ext no1 stk hp1 s1 hp1 {s1 with heap:=h'}:=Ext.grow (stk:=stk) (tk:=s1.toks) kp'
 have ok2:HeapOk P stk hp1 {s1 with heap:=h'}:=ok1.grow (tk:=s1.toks) kp'
 have ev2:=ev1.step ok1 e2
 have rx2:=gG kp' rx
 obtain⟨y,ys,hxs,ry,z,zs,rfl,rz,rfl⟩:=rx2
 rw[hxs]
 show wpAny _ _ (assignInOrder [λv=>bindName env (P.nm j) v,λv=>bindName env (P.nm i) v] [z,y]) _ _ _
 refine kr (En (storeVar inj (by rw[hs,hj]) ev2 ok2 rz λs3 e3 ev3 ok3=>?_))
 refine kr (En (storeVar inj (by rw[hs,hi]) ev3 ok3 (kb ev2 (e3.wider ownI_E) ry) λs4 e4 ev4 ok4=>?_))
 exact wpAny_assignInOrder_none ⟨hp1,((e1.trans e2).of1.trans (e3.wider ownI_E)).trans (e4.wider ownI_E),ok4,.next,_,ev4,q,trivial⟩
end Mine
namespace Mine
variable{A:ax}{P:cH}{Fl:f9}{d:Nat}{sc:Scope}
noncomputable def ti(fr:List Nat)(src:DE)(t:DA)(f:DT)(inner:CD):DE:=λQ X loc hp=>src (λv hp1=>∃vs,dp hp1 v=some vs∧mj v hp1 t f inner (λacc hp'=>∀l,hp' l=ac→Q (.ref l) (upd hp' l (.lst acc))) vs [] (keepL fr loc) hp1) X loc hp
theorem lQ.tr{stk:Addr→Prop}{hp hp':Hp}{s s':af}{D C:Addr}{acc:List V}(c:lQ P stk hp hp' s s' D C acc){h':Heap}(hs:bv C s'.heap h'):hp' D=ac∧Ext no1 stk hp s (upd hp' D (.lst acc)) {s' with heap:=h'}∧HeapOk P stk (upd hp' D (.lst acc)) {s' with heap:=h'}:=by
 obtain⟨e,_,_⟩:=c.fin hs
 obtain⟨stkN,sub,ok,sD,sC,nD,nC,fC,_,ys,⟨n,g⟩,r⟩:=c.all
 have hD:=stk_none ok sD
 have gD:h'.get? D=some _:=(hs.2 D c.dif).trans g
 have ky:bB (Fz stkN hp') (Fz stk (upd hp' D (.lst acc))) s'.heap h':=λa o f g=>⟨⟨by rw[upd_ne (show a≠D from λz=>f.2 (z▸sD))];exact f.1,λz=>f.2 (sub a z)⟩,(hs.2 a (λz=>f.2 (z▸sC))).trans g⟩
 refine⟨hD,⟨e.keep,e.there,e.dic,λb h n=>?_,e.drawn,e.os⟩,⟨λa o h=>?_,λa h z=>?_,λb o h=>(hs.2 b ?_).trans (ok.base b o h),λa h=>?_,λa z=>ok.stkn a (sub a z),λa z=>?_,ok.gens⟩⟩
 ·by_cases q:b=D
  ·subst q;exact c.fD
  ·rw[upd_ne q]at n;exact e.fresh b h n
 ·by_cases q:a=D
  ·subst q;rw[upd_same]at h;cases h;exact⟨ys,⟨n,gD⟩,r.keep ky⟩
  ·rw[upd_ne q]at h
   exact(ok.obj a o h).keep ky λo g=>(hs.2 a (by rintro rfl;rw[stk_none ok sC]at h;cases h)).trans g
 ·by_cases q:a=D
  ·subst q;exact nD z
  ·rw[upd_ne q]at h;exact ok.apart a h (sub a z)
 ·rintro rfl;rw[ok.stkn b sC]at h;cases h
 ·by_cases q:a=D
  ·subst q;exact ok.stkn a sD
  ·rw[upd_ne q]at h;exact ok.new a h
 ·obtain⟨o,g⟩:=ok.stkl a (sub a z);exact⟨o,(hs.2 a (by rintro rfl;exact nC z)).trans g⟩
theorem Sim.compN(hz:(P.H₀.get? sysModules).isSome=true)(hd:0<d){elt:Expr}{rest:List cb}{scope:Scope}{pos:Pos}{t iter:Expr}{ifs:List Expr}{idt ids fr:List Nat}{De:DE}{Dt:DA}{Df:DT}{inner:CD}(hn1:rest[0]?=ac∨∃t' i' f',rest[0]?=some ⟨t',i',f',0⟩)
 (F:bf P scope sc fr (idt++ids))
 (he:bz P Fl d sc iter De)(ht:SimG P Fl d (i2 scope sc) t idt Dt)(htg:Tgt idt Dt)(hf:eg P Fl d (i2 scope sc) ifs Df)(hi:SimI P Fl d (i2 scope sc) elt (⟨t,iter,ifs,0⟩::rest) scope pos 1 ids inner)(hdis:∀i∈ids,i∉idt)(hfs:∀env x,foldedSetIterable iter env x=pure x):
 bz P Fl d sc (.ListComp elt (⟨t,iter,ifs,0⟩::rest) scope pos) (ti fr De Dt Df inner):=by
 intro A env s Q X loc hp stk rm hs ev ok hD
 rw[T,Ff]
 refine kq (use:=none) rfl (hfs env) (i9 λn k h1 h2=>?_) F.kind (mM F.nodup) ?_
 ·subst h2
  obtain⟨c,_,e,_⟩:=ev.cells n (by have:=F.out n h1;rw[←hs]at this;exact this)
  exact⟨c,e⟩
 ·refine mP (G:=λy=>True) (K:=λacc hp'=>∀l,hp' l=ac→Q (.ref l) (upd hp' l (.lst acc))) hd trivial rfl hn1 F he ht htg hf hi hdis rm hs ev ok (λv hp1 h=>by obtain⟨vs,hv,lp⟩:=h;exact⟨vs,hp1,v,its_of hz hv,lp⟩) hD (λy y z=>z) λD C hp' acc f s' ce q=>?_
  obtain⟨_,_,_,_,_,_,_,_,⟨m,hn⟩,_⟩:=ce.all
  refine⟨m,hn,λh' hs'=>?_⟩
  obtain⟨hD,e,ok'⟩:=ce.tr hs'
  exact⟨_,e,ok',_,q D hD,rj⟩
end Mine
namespace Mine
variable{P:cH}{Fl:f9}{d:Nat}{sc:Scope}{ex:Nat→Value}
theorem fX{F:Addr→Prop}{h:Heap}{vs:List V}{xs:Array Value}(r:VRs P.nm F h vs xs.toList):xs.size=vs.length:=by rw[←r.length];simp
theorem iP{stk:Addr→Prop}{hp:Hp}{s:af}{Q:V→Hp→Prop}{h':Heap}{tk:Nat}{v:V}{y:Value}(ok:HeapOk P stk hp s)(k:∀b o,s.heap.get? b=some o→h'.get? b=some o)(q:Q v hp)(r:P.VR stk hp h' v y):
 PostT P no1 stk hp s (PV P stk Q) y {s with heap:=h',toks:=tk}:=⟨hp,Ext.grow (stk:=stk) k,ok.grow k,v,q,r⟩
noncomputable def Ae(hp:Hp):V→Option Nat
 | .tup vs=>some vs.length
 | .str l=>some l.length
 | .ref a=>(match hp a with|some (.dict es _)=>some es.length|some (.lst vs)=>some vs.length|_=>ac)
 | .lst vs=>some vs.length
 |_=>ac
noncomputable def iK:DC:=λvs Q X hp=>∃v n,vs=[v]∧Ae hp v=some n∧n≤lim∧Q (.int n) hp
set_option tactic.hygienic true in
theorem OkC.len(hz:(P.H₀.get? sysModules).isSome=true):OkC P Fl d (.builtin "len") iK:=by
 rintro A s Q X hp stk vs xs rm fs ok r ⟨v,n,hv,hn,hl,q⟩
 subst hv
 obtain⟨x,ys,rfl,r,rfl⟩:=r
 unfold lim at hl
 have lists:∀us,bL hp v=some us→us.length=n→T P no1 stk A (call (.builtin "len") [x]) hp s (PV P stk Q) (lX Fl X):=by
  intro us hu hln
  obtain⟨a,zs,rfl,p,rz⟩:=aU ok r hu
  have hz:=fX rz
  refine call_len_list p.isList (by lia) ?_
  rw[hz,hln];exact fV ok q vInt
 cases v<;>first|(cases hn;done)|skip
 case str l=>
  cases hn
  obtain⟨t,rfl⟩:=r
  refine PySem.P.len_str ?_ (fV ok q vInt)
  show¬((l.toArray.size:Int)≥_)
  simp;lia
 case tup us=>
  cases hn
  obtain⟨a,zs,rfl,_,⟨n,g⟩,rz⟩:=r
  have hz:=fX rz
  refine len_tuple ⟨_,g,rfl,n,rfl⟩ (by lia) ?_
  rw[hz];exact fV ok q vInt
 case lst us=>cases hn;exact lists us rfl rfl
 case ref a=>
  change (match hp a with|some (.dict es _)=>some es.length|some (.lst vs)=>some vs.length|_=>ac)=_ at hn
  cases ha:hp a with
  |none=>rw[ha]at hn;cases hn
  |some o=>
   rw[ha]at hn
   cases o<;>first|(cases hn;done)|skip
   ·cases hn;exact lists _ (listOf_ref ha) rfl
   ·rename_i es ep
    simp only[cO]at hn
    cases r
    obtain⟨kvs,hd,er⟩:=ok.obj _ _ ha
    have hzz:=er.length
    refine call_len_dict (ku ok ha hz) hd.dictOf (by lia) ?_
    rw[hzz,hn];exact fV ok q vInt
 all_goals (first|(cases hn;done)|skip)
noncomputable def wx:DC:=λvs Q X hp=>∃a b,vs=[.int a,.int b]∧Q (.int (if b<a then b else a)) hp
noncomputable def pU:DC:=λvs Q X hp=>∃a b,vs=[.int a,.int b]∧Q (.int (if b>a then b else a)) hp
theorem OkC.min2(hd:0<d):OkC P Fl d (.builtin "min") wx:=by
 rintro A s Q X hp stk vs xs rm fs ok r ⟨a,b,hv,q⟩
 subst hv
 obtain⟨x,ys,rfl,⟨t,rfl⟩,y,zs,rfl,⟨u,rfl⟩,rfl⟩:=r
 refine min_two_ints (rm.hd hd) λh' tk k=>iP ok k q ?_
 split<;>exact vInt
theorem OkC.max2(hd:0<d):OkC P Fl d (.builtin "max") pU:=by
 rintro A s Q X hp stk vs xs rm fs ok r ⟨a,b,hv,q⟩
 subst hv
 obtain⟨x,ys,rfl,⟨t,rfl⟩,y,zs,rfl,⟨u,rfl⟩,rfl⟩:=r
 refine max_two_ints (rm.hd hd) λh' tk k=>iP ok k q ?_
 split<;>exact vInt
noncomputable def yM:DC:=λvs Q X hp=>∃a,vs=[.int a]∧Q (.int (if a<0 then -a else a)) hp
theorem OkC.abs:OkC P Fl d (.builtin "abs") yM:=by
 rintro A s Q X hp stk vs xs rm fs ok r ⟨a,hv,q⟩
 subst hv
 obtain⟨x,ys,rfl,⟨t,rfl⟩,rfl⟩:=r
 exact call_abs_int λu tk=>fV ok q vInt
noncomputable def jv:List V→Option (List Int)
 | []=>some []
 |v::vs=>(jP v).bind λi=>(jv vs).map (i::·)
theorem jj{F:Addr→Prop}{h:Heap}:∀{vs:List V}{xs:List Value}{ns:List Int},VRs P.nm F h vs xs→jv vs=some ns→fh xs ns:=by
 intro xs_
 induction xs_ with
 |nil=>
  intro xs ns r e
  simp only[VRse]at r;cases e;subst r;exact .nil
 |cons v vs ih=>
  intro xs ns r e
  obtain⟨i,e1,e⟩:=jq.mp e
  cases asInt_inv e1
  obtain⟨y,ys,rfl,⟨t,rfl⟩,q⟩:=r
  obtain⟨ms,hm,rfl⟩:=d8.mp e
  exact .cons _ _ (ih q hm)
theorem p7{F:Addr→Prop}{h:Heap}:∀{xs:List Value}{ns:List Int},fh xs ns→VRs P.nm F h (ns.map .int) xs:=by
 intro xs ns h
 induction h with
 |nil=>simp only[gj,VRse]
 |cons n t q ih=>simp only[ao,VRse];exact⟨_,_,rfl,vInt,ih⟩
noncomputable def AQ:DC:=λvs Q X hp=>∃v us ns,vs=[v]∧bL hp v=some us∧jv us=some ns∧Q (.int ns.sum) hp
theorem OkC.sum(hd:0<d):OkC P Fl d (.builtin "sum") AQ:=by
 rintro A s Q X hp stk vs xs rm fs ok r ⟨v,us,ns,hv,hu,hns,q⟩
 subst hv
 obtain⟨x,ys,rfl,r,rfl⟩:=r
 obtain⟨a,zs,rfl,p,rz⟩:=aU ok r hu
 have hI:=jj rz hns
 obtain⟨xs,hxs⟩:=hI.allInts.items
 have e0:zs=intItems xs:=by simpa using hxs
 subst e0
 refine sum_intListG (rm.hd hd) p.isList λh' tk t' k=>iP ok k (v:=.int ns.sum) q ?_
 have:preSum (numAt xs) xs.size=ns.sum:=by
  have h1:=Fc (xs:=xs)
  have h2:=hI.numsOf
  rw[h1]at h2
  rw[←h2]
  rw[preSum_eq,List.take_of_length_le (by simp)]
 rw[this];exact vInt
end Mine
namespace Mine
variable{P:cH}{Fl:f9}{d:Nat}{sc:Scope}{ex:Nat→Value}
noncomputable def d4:DC:=λvs Q X hp=>∃b,vs=[.int b]∧Q (.rng 0 b) hp
noncomputable def lM:DC:=λvs Q X hp=>∃a b,vs=[.int a,.int b]∧Q (.rng a b) hp
theorem OkC.range1:OkC P Fl d (.type "range") d4:=by
 rintro A s Q X hp stk vs xs rm fs ok r ⟨b,hv,q⟩
 subst hv
 obtain⟨x,ys,rfl,⟨t,rfl⟩,rfl⟩:=r
 refine call_range_1 (iP ok (λb o e=>aj _ e) q ?_)
 simp only[VRe]
 exact⟨_,_,_,_,rfl,gW ok,Ay ..⟩
theorem OkC.range2:OkC P Fl d (.type "range") lM:=by
 rintro A s Q X hp stk vs xs rm fs ok r ⟨a,b,hv,q⟩
 subst hv
 obtain⟨x,ys,rfl,⟨t,rfl⟩,y,zs,rfl,⟨u,rfl⟩,rfl⟩:=r
 refine call_range_2 (iP ok (λb o e=>aj _ e) q ?_)
 simp only[VRe]
 exact⟨_,_,_,_,rfl,gW ok,Ay ..⟩
noncomputable def fU(ns:List Int):List Int:=ns.mergeSort (λa b=>decide (a≤b))
theorem gX{ns ms:List Int}(hp:ms.Perm ns)(hs:ms.Pairwise (·≤·)):ms=fU ns:=by
 refine FY (le:=λa b=>a≤b) (λa b z z h1 h2=>pF h1 h2) hs ?_ (hp.trans (vU ns _).symm)
 have:=sv (le:=λ(a b:Int)=>decide (a≤b)) (λa b c h1 h2=>by simp only[decide_eq_true_eq]at*;lia) (λa b=>by simp only[zX,decide_eq_true_eq];lia) ns
 exact this.imp λh=>by simpa using h
noncomputable def qC:DC:=λvs Q X hp=>∃v us ns,vs=[v]∧bL hp v=some us∧jv us=some ns∧us.length<64∧Q (.lst ((fU ns).map .int)) hp
theorem OkC.sortInts:OkC P Fl d (.builtin "sorted") qC:=by
 rintro A s Q X hp stk vs xs rm fs ok r ⟨v,us,ns,hv,hu,hns,hl,q⟩
 subst hv
 obtain⟨x,ys,rfl,r,rfl⟩:=r
 obtain⟨a,zs,rfl,p,rz⟩:=aU ok r hu
 have hI:=jj rz hns
 have p':s.heap.IsList a zs.toList.toArray:=by simpa using p.isList
 refine sorted_ints p' hI (by rw[rz.length];exact hl) λout ns' a1 a2 a3=>?_
 obtain⟨e,he⟩:=FO s.heap zs.toList out
 have k:∀b o,s.heap.get? b=some o→(sortedAll s.heap zs.toList out).get? b=some o:=λb o g=>Fa g
 have en:ns'=fU ns:=gX a2 a3
 subst en
 refine iP (tk:=s.toks) ok k q ?_
 simp only[VRe]
 refine⟨_,out,rfl,fz_of_new ok ?_,⟨e,he⟩,p7 a1⟩
 cases g:s.heap.get? (s.heap.objs.size+1)with
 |none=>rfl
 |some o=>exact absurd (a8 g) (et.mpr (gb _))
noncomputable def te:DC:=λvs Q X hp=>∃us,vs=[.tup us,.fn (.type "tuple")]∧Q (.bool true) hp
theorem OkC.isTup:OkC P Fl d (.builtin "isinstance") te:=by
 rintro A s Q X hp stk vs xs rm fs ok r ⟨us,hv,q⟩
 subst hv
 obtain⟨x,ys,rfl,⟨a,zs,rfl,_,⟨n,g⟩,_⟩,y,ws,rfl,rfl,rfl⟩:=r
 exact IsiPair.tuple_tuple g rfl (here ok q io)
noncomputable def rC:DC:=λvs Q X hp=>∃v us,vs=[v]∧bL hp v=some us∧us.length≤lim∧Q (.tup us) hp
theorem OkC.tupL:OkC P Fl d (.type "tuple") rC:=by
 rintro A s Q X hp stk vs xs rm fs ok r ⟨v,us,hv,hu,hl,q⟩
 subst hv
 obtain⟨x,ys,rfl,r,rfl⟩:=r
 obtain⟨a,zs,rfl,p,rz⟩:=aU ok r hu
 refine call_tuple_list p.isList (λh' k=>?_) (by have:=fX rz;have:=dZ;lia)
 have k2:∀b o,s.heap.get? b=some o→(h'.push {cls:=.type "tuple",data:=.seq zs}).get? b=some o:=λb o g=>aj _ (k b o g)
 refine iP (tk:=s.toks) ok k2 q ?_
 simp only[VRe]
 refine⟨_,zs,rfl,fz_of_new ok ?_,⟨0,aq _ rfl⟩,gG k2 rz⟩
 cases g:s.heap.get? h'.objs.size with
 |none=>rfl
 |some o=>exact absurd (a8 (k _ _ g)) (dC _)
noncomputable def Ak:DC:=λvs Q X hp=>vs=[]∧∀l,hp l=ac→Q (.ref l) (upd hp l (.set []))
theorem OkC.set0:OkC P Fl d (.type "set") Ak:=by
 rintro A s Q X hp stk vs xs rm fs ok r ⟨hv,q⟩
 subst hv
 cases r
 refine call_set_0 λled=>newTracked (tk:=s.toks) (o:=.set []) ok rfl ?_ q
 exact⟨_,#[],0,_,aq _ rfl,⟨rfl,rfl,rfl⟩,rfl,λe he=>by simp at he,λk=>by simp,by decide,by rfl,rfl⟩
end Mine
namespace Mine
open PySem.MeetsSeq
variable{P:cH}{Fl:f9}{d:Nat}{sc:Scope}{ex:Nat→Value}
noncomputable def ip(hp:Hp)(v:V):Prop:=∃vs,bL hp v=some vs
noncomputable def n8(hp:Hp)(v:V):Prop:=∃a es ep,v= .ref a∧hp a=some (.dict es ep)
noncomputable def wt(hp:Hp)(v:V):Prop:=∃a xs,v= .ref a∧hp a=some (.set xs)
noncomputable def isStr(hp:Hp)(v:V):Prop:=∃l,v= .str l
theorem Meth.list{name:Str}{id:String}(slot:B3 "list" name id)(hty:typeOf (.builtin id)=pure (.type "method_descriptor")):Meth P name ip (.builtin id):=by
 rintro A s hp stk v x pl Q E ok r ⟨vs,h⟩ q
 obtain⟨a,zs,rfl,p,rz⟩:=aU ok r h
 obtain⟨n,g⟩:=p
 exact pB (T:= "list") ⟨_,g,rfl⟩ PySem.F.plainAttrs_list slot hty (λb e=>by cases e;exact⟨_,g,rfl⟩) (q s.toks)
theorem Meth.dict{name:Str}{id:String}(slot:B3 "dict" name id)(hty:typeOf (.builtin id)=pure (.type "method_descriptor")):Meth P name n8 (.builtin id):=by
 rintro A s hp stk v x pl Q E ok r ⟨a,es,ep,hv,ha⟩ q
 subst hv
 cases r
 refine(ok.obj _ _ ha).elim λkvs r1_=>r1_.elim λhd er=>?_
 replace hd:=hd.dictOf
 exact pB hd.typeIs PySem.F.plainAttrs_dict slot hty hd.mapOf.noDict (q s.toks)
theorem Meth.setAdd:Meth P "add" wt (.builtin "set.add"):=by
 rintro A s hp stk v x pl Q E ok r ⟨a,xs,hv,ha⟩ q
 subst hv
 cases r
 exact getMethod_set_add (ok.obj _ _ ha) (q s.toks)
theorem Meth.str{name:Str}{id:String}(slot:B3 "str" name id)(hty:typeOf (.builtin id)=pure (.type "method_descriptor")):Meth P name isStr (.builtin id):=by
 rintro A s hp stk v x pl Q E ok r ⟨l,hv⟩ q
 subst hv
 obtain⟨t,rfl⟩:=r
 exact pB (tt _ _ _) PySem.F.plainAttrs_str slot hty (λa e=>by cases e) (q s.toks)
theorem listUpd{stk:Addr→Prop}{hp:Hp}{s:af}{a:Addr}{vs ws:List V}{xs:Array Value}{n:Nat}{f:Array Value→Array Value}{Q:V→Hp→Prop}{v:V}{y:Value}(ok:HeapOk P stk hp s)(ha:hp a=some (.lst vs))(g:IsL s.heap a xs n)
 (r:∀h',bB (Fz stk hp) (Fz stk (upd hp a (.lst ws))) s.heap h'→VRs P.nm (Fz stk (upd hp a (.lst ws))) h' ws (f xs).toList)(q:Q v (upd hp a (.lst ws)))(rv:P.VR stk hp s.heap v y):
 PostT P no1 stk hp s (PV P stk Q) y {s with heap:=s.heap.update a (cQ f)}:=by
 have g':=Eu g f
 have sb:bv a s.heap (s.heap.update a (cQ f)):=bD ..
 refine(listChanged (own:=no1) (tk:=s.toks) (ws:=ws) ok ha sb ⟨_,g'⟩ (r _)).elim λe ok'=>?_
 exact⟨_,e,ok',v,q,d5 e rv⟩
noncomputable def fF:DC:=λvs Q X hp=>∃a us v,vs=[.ref a,v]∧hp a=some (.lst us)∧us.length≤lim∧Q .none (upd hp a (.lst (us++[v])))
theorem OkC.append:OkC P Fl d (.builtin "list.append") fF:=by
 rintro A s Q X hp stk vs xs rm fs ok r ⟨a,us,v,hv,ha,hl,q⟩
 subst hv
 obtain⟨x,ys,rfl,rx,y,zs,rfl,ry,rfl⟩:=r
 cases rx
 refine(ok.obj _ _ ha).elim λxs r1_=>r1_.elim λe2_ rz=>e2_.elim λn g=>?_
 refine fH PySem.F.slot_list_append ⟨_,g,rfl⟩ PySem.F.entry_list_append (PySem.F.args_list_append_2 _ _) (list_append a xs n y (by have:=fX rz;have:=dZ;lia)) ⟨g,?_⟩
 refine listUpd (f:=λz=>z.push y) ok ha g (λh' ky=>?_) q vNone
 rw[we];exact(rz.keep ky).append (vCons (ry.keep ky) vNil)
noncomputable def w9:DC:=λvs Q X hp=>∃a us,vs=[.ref a]∧hp a=some (.lst us)∧us.length≤lim∧Q .none (upd hp a (.lst []))
theorem OkC.clear:OkC P Fl d (.builtin "list.clear") w9:=by
 rintro A s Q X hp stk vs xs rm fs ok r ⟨a,us,hv,ha,hl,q⟩
 subst hv
 obtain⟨x,ys,rfl,rx,rfl⟩:=r
 cases rx
 refine(ok.obj _ _ ha).elim λxs r1_=>r1_.elim λe2_ rz=>e2_.elim λn g=>?_
 refine fH PySem.F.slot_list_clear ⟨_,g,rfl⟩ PySem.F.entry_list_clear (PySem.F.args_list_clear_1 _) (Gc a xs n (by have:=fX rz;have:=dZ;lia)) ⟨g,?_⟩
 exact listUpd (f:=λz=> #[]) ok ha g (λh' ky=>vNil) q vNone
theorem VRs.dropLast{F:Addr→Prop}{h:Heap}:∀{vs:List V}{xs:List Value},VRs P.nm F h vs xs→VRs P.nm F h vs.dropLast xs.dropLast
 | [],xs,r=>by cases r;simp[VRse]
 | [v],xs,r=>by
   obtain⟨y,ys,rfl,p,rfl⟩:=r
   simp[VRse]
 |v::u::vs,xs,r=>by
  obtain⟨y,ys,rfl,p,z,zs,rfl,p2,q⟩:=r
  simp only[List.dropLast_cons_cons]
  exact vCons p (VRs.dropLast (vCons p2 q))
noncomputable def AR:DC:=λvs Q X hp=>∃a us v,vs=[.ref a]∧hp a=some (.lst us)∧us.length≤lim∧us.getLast?=some v∧Q v (upd hp a (.lst us.dropLast))
theorem OkC.pop:OkC P Fl d (.builtin "list.pop") AR:=by
 rintro A s Q X hp stk vs xs rm fs ok r ⟨a,us,v,hv,ha,hl,hlast,q⟩
 subst hv
 obtain⟨x,ys,rfl,rx,rfl⟩:=r
 cases rx
 refine(ok.obj _ _ ha).elim λxs r1_=>r1_.elim λe2_ rz=>e2_.elim λn g=>?_
 have hz:=fX rz
 rw[List.getLast?_eq_getElem?]at hlast
 obtain⟨y,hy,ry⟩:=rz.get hlast
 have hy':xs[xs.size - 1]?=some y:=by rw[hz,←bg];exact hy
 refine fH PySem.F.slot_list_pop ⟨_,g,rfl⟩ PySem.F.entry_list_pop (PySem.F.args_list_pop_1 _) (list_pop_last a xs n y hy' (by have:=dZ;lia)) ⟨g,?_⟩
 refine listUpd (f:=λz=>z.eraseIdxIfInBounds (xs.size - 1)) ok ha g (λh' ky=>?_) q ry
 have e:(xs.eraseIdxIfInBounds (xs.size - 1)).toList=xs.toList.dropLast:=by
  have h0:=(cD.mp hy').1
  rw[Array.toList_eraseIdxIfInBounds,List.dropLast_eq_take,List.eraseIdx_eq_take_drop_succ,fB,j3 (by rw[fB];lia),aN]
 rw[e];exact(rz.keep ky).dropLast
noncomputable def wi:DC:=λvs Q X hp=>∃a es ep k,vs=[.ref a,.int k]∧hp a=some (.dict es ep)∧Q ((eAt es k).getD .none) hp
theorem OkC.get(hz:(P.H₀.get? sysModules).isSome=true):OkC P Fl d (.builtin "dict.get") wi:=by
 rintro A s Q X hp stk vs xs rm fs ok r ⟨a,es,ep,k,hv,ha,q⟩
 subst hv
 obtain⟨x,ys,rfl,rx,y,zs,rfl,ry,rfl⟩:=r
 simp only[VRe]at rx ry
 subst rx
 obtain⟨t,rfl⟩:=ry
 refine(ok.obj _ _ ha).elim λkvs r1_=>r1_.elim λhd er=>?_
 replace hd:=hd.dictOf
 refine pz PySem.F.slot_dict_get hd.typeIs PySem.F.entry_dict_get (PySem.F.args_dict_get_2 _ _) (meets_dict_get (intKind P.prog P.w) a (k:=k) (jA _ _ _ _) (ku ok ha hz)) ⟨_,hd.mapOf,?_⟩
 refine fV ok q ?_
 cases e:eAt es k with
 |none=>rw[er.none e];exact vNone
 |some v=>obtain⟨y,hy,ry⟩:=er.at e;rw[hy];exact ry
noncomputable def uD:DC:=λvs Q X hp=>∃a es ep,vs=[.ref a]∧hp a=some (.dict es ep)∧Q (.vals false a) hp
theorem OkC.values(hz:(P.H₀.get? sysModules).isSome=true):OkC P Fl d (.builtin "dict.values") uD:=by
 rintro A s Q X hp stk vs xs rm fs ok r ⟨a,es,ep,hv,ha,q⟩
 subst hv
 obtain⟨x,ys,rfl,rx,rfl⟩:=r
 cases rx
 refine(ok.obj _ _ ha).elim λkvs r1_=>r1_.elim λhd er=>?_
 replace hd:=hd.dictOf
 refine pz PySem.F.slot_dict_values hd.typeIs PySem.F.entry_dict_values (PySem.F.args_dict_values_1 _) (meets_dict_values (intKind P.prog P.w) a (ku ok ha hz)) ⟨⟨_,hd⟩,?_⟩
 refine iP (tk:=s.toks) ok (λb o e=>aj _ e) q ?_
 simp only[VRe]
 exact⟨_,rfl,gW ok,aq _ rfl⟩
noncomputable def AU:DC:=λvs Q X hp=>∃a xs k,vs=[.ref a,.int k]∧hp a=some (.set xs)∧xs.length+1<scanBound∧Q .none (upd hp a (.set (if k∈xs then xs else k::xs)))
theorem OkC.add:OkC P Fl d (.builtin "set.add") AU:=by
 rintro A s Q X hp stk vs ys rm fs ok r ⟨a,xs,k,hv,ha,hl,q⟩
 subst hv
 obtain⟨x,ys,rfl,rx,y,zs,rfl,ry,rfl⟩:=r
 simp only[VRe]at rx ry
 subst rx
 obtain⟨t,rfl⟩:=ry
 have hS:=ok.obj _ _ ha
 refine call_set_add (knd:=intKind P.prog P.w) (k:=k) (jA _ _ _ _) rfl hS hl λh' sb hS'=>?_
 refine⟨_,Ext.change (own:=no1) (tk:=s.toks+1) ok ha sb (by obtain⟨o,_,_,_,g,_⟩:=hS';exact⟨o,g⟩),ok.change (tk:=s.toks+1) ha sb ?_,_,q,vNone⟩
 have e1:(λk'=>decide (k'∈xs)||decide (k'=k))=λk'=>decide (k'∈(if k∈xs then xs else k::xs)):=by
  funext k'
  by_cases hk:k∈xs
  ·rw[if_pos hk]
   by_cases h2:k'=k
   ·subst h2;simp[hk]
   ·simp[h2]
  ·rw[if_neg hk]
   by_cases h2:k'=k<;>simp[h2,BS]
 have e2:(if decide (k∈xs)=true then xs.length else xs.length+1)=(if k∈xs then xs else k::xs).length:=by
  by_cases hk:k∈xs<;>simp[hk]
 rw[e1]at hS'
 have hS2:=hS'
 rw[e2]at hS2
 exact hS2
end Mine
namespace Mine
variable{P:cH}{Fl:f9}{d:Nat}{sc:Scope}{ex:Nat→Value}
theorem t0:B3 "list_iterator" "__getattribute__" "object.__getattribute__" :=
 .of (owner:= "object") (n:= "__getattribute__") (by rw[i7,fg];kernel_rfl) (by decide+kernel) (by decide+kernel) (by decide+kernel)
  (by first|exact .inl (by decide+kernel)|exact .inr (by decide+kernel)) (by rw[gP];kernel_rfl)
theorem xK:entryFor table "object.__getattribute__" =some Builtin.«object.__getattribute__»:=CI (by kernel_rfl)
theorem zp(a b:Value):argsOk "object.__getattribute__" ⟨[a,b],[]⟩:=by unfold argsOk;kernel_rfl
theorem zn:typeLookup (.type "list_iterator") "__next__" =pure (some (.builtin "list_iterator.__next__")):=by rw[i7,fg];kernel_rfl
theorem qH:typeOf (.builtin "list_iterator.__next__")=pure (.type "wrapper_descriptor"):=by show builtinType _=_;rw[builtinType_eq_fast];kernel_rfl
theorem sN:B3 "wrapper_descriptor" "__get__" "wrapper_descriptor.__get__" :=
 .of (owner:= "wrapper_descriptor") (n:= "__get__") (by rw[i7,fg];kernel_rfl) (by decide+kernel) (by decide+kernel) (by decide+kernel)
  (by first|exact .inl (by decide+kernel)|exact .inr (by decide+kernel)) (by rw[gP];kernel_rfl)
theorem A1:typeLookup (.type "wrapper_descriptor") "__set__" =pure none:=by rw[i7,fg];kernel_rfl
theorem A2:typeLookup (.type "wrapper_descriptor") "__delete__" =pure none:=by rw[i7,fg];kernel_rfl
theorem xm:entryFor table "wrapper_descriptor.__get__" =some Builtin.«wrapper_descriptor.__get__»:=CI (by kernel_rfl)
theorem yY(a b c:Value):argsOk "wrapper_descriptor.__get__" ⟨[a,b,c],[]⟩:=by unfold argsOk;kernel_rfl
theorem Bb:isSubtype (.type "list_iterator") (.type "list_iterator")=pure true:=by rw[gP];kernel_rfl
theorem xJ:(".".intercalate ("list_iterator.__next__".cutAt '.').dropLast)= "list_iterator" :=by
 have e0: "list_iterator.__next__".cutAt '.'=["list_iterator", "__next__"]:=by first|rfl|decide+kernel
 rw[e0];decide+kernel
section
variable{prog:Program}{w:c8}{A:ax}{E:Value→af→Prop}{h:Heap}{g:Array GenState}{dr:Drawn}{t:Nat}{os:BG}{a:Addr}{o:Obj}
theorem xC{R:qs→af→Prop}(hx:h.get? a=some o)(hc:o.cls= .type "list_iterator")
 (hq:R (.ok (.ret (.ref h.objs.size))) ⟨h.push {cls:=.type "method-wrapper",data:=.fields #[.builtin "list_iterator.__next__",.ref a]},g,dr,t,os⟩):
 codeAny (model prog w) A (.call (.builtin "wrapper_descriptor.__get__") ⟨[.builtin "list_iterator.__next__",.ref a,.type "list_iterator"],[]⟩) R ⟨h,g,dr,t,os⟩:=by
 have hT:(⟨h,g,dr,t,os⟩:af).TypeIs (.ref a) "list_iterator" :=⟨_,hx,hc⟩
 have hT5:(⟨h,g,dr,t,os⟩:af).TypeIs (.builtin "list_iterator.__next__") "wrapper_descriptor" :=qH
 have f8:isSubtype (.type "list_iterator") (.type (".".intercalate ("list_iterator.__next__".cutAt '.').dropLast))=pure true:=by rw[xJ];exact Bb
 refine mR sN.plain xm (sN.check _ _ _ _ _ _ _ _ hT5 (yY _ _ _) ?_)
 repeat (any_goals (first|assumption|wp_step))
theorem tG{tk:Tok}{Q:Fin→af→Prop}(hx:h.get? a=some o)(hc:o.cls= .type "list_iterator")(hdn:o.dict=none){vs:Array Value}(hdd:o.data= .fields vs)
 (hq:Q (.done (.ret (.ref h.objs.size))) ⟨h.push {cls:=.type "method-wrapper",data:=.fields #[.builtin "list_iterator.__next__",.ref a]},g,dr,t,os⟩):
 wpAny (model prog w) A (Builtin.«object.__getattribute__» ⟨[.ref a,.str "__next__" tk],[]⟩) Q E ⟨h,g,dr,t,os⟩:=by
 have hT:(⟨h,g,dr,t,os⟩:af).TypeIs (.ref a) "list_iterator" :=⟨_,hx,hc⟩
 have hT5:(⟨h,g,dr,t,os⟩:af).TypeIs (.builtin "list_iterator.__next__") "wrapper_descriptor" :=qH
 have f4:=zn
 have f5:=qH
 have f6:=sN.lookup
 have f7:=A1
 have f8:=A2
 repeat (any_goals (first|assumption|wp_step))
 rw[hdd]
 show wpAny _ _ (instanceDict a false) _ _ _
 refine wpAny_bind (tw hx ?_)
 rw[hdn,hc]
 repeat (any_goals (first|assumption|wp_step))
 exact xC hx hc (wpAny_pure hq)
theorem vf{expr:Bool}{Q:Value→af→Prop}(hx:h.get? a=some o)(hc:o.cls= .type "list_iterator")(hdn:o.dict=none){vs:Array Value}(hdd:o.data= .fields vs)
 (hq:Q (.ref h.objs.size) ⟨h.push {cls:=.type "method-wrapper",data:=.fields #[.builtin "list_iterator.__next__",.ref a]},g,dr,t+1,os⟩):
 wpAny (model prog w) A (getAttr (.ref a) "__next__" expr) Q E ⟨h,g,dr,t,os⟩:=by
 have hT:∀t,(⟨h,g,dr,t,os⟩:af).TypeIs (.ref a) "list_iterator" :=λt=>⟨_,hx,hc⟩
 have f2:=t0.lookup
 unfold getAttr
 refine wpAny_bind (FN ?_)
 unfold getAttrBy
 refine wpAny_holding (wpAny_bind (FM (hT _) (wpAny_bind ?_)))
 rw[f2]
 refine wpAny_pure ?_
 show wpAny _ _ (if(onTheHeap (fS "list_iterator")&&_)=true then _ else _) _ _ _
 rw[if_neg (by rw[show onTheHeap (fS "list_iterator")=false from rfl];simp)]
 unfold getAttrByItsOwn
 refine wpAny_bind (wpAny_of_eq (a:=none) (by unfold hookBefore;rw[show onTheHeap (fS "list_iterator")=false from rfl];rfl) ?_)
 refine wpAny_bind (E9 (wpAny_holding ?_))
 unfold callGetattribute
 rw[show(expr&&onTheHeap (Value.builtin "object.__getattribute__"))=false from by cases expr<;>rfl,if_neg (by decide)]
 unfold boundAndCalled
 have f3:=t0.bind (.ref a)
 refine wpAny_bind (wpAny_of_eq f3 ?_)
 refine wpAny_call (mR t0.plain xK (t0.check _ _ _ _ _ _ _ _ (hT _) (zp _ _) (tG hx hc hdn hdd ?_)))
 show wpAny _ _ (handedOut (.ref h.objs.size)) _ _ _
 rw[xi rfl]
 exact wpAny_pure hq
end
end Mine
namespace Mine
variable{P:cH}{Fl:f9}{d:Nat}{sc:Scope}{ex:Nat→Value}
theorem xL(a:Value):checkBoundCall "list_iterator.__next__" ⟨[a],[]⟩=pure ():=by kernel_rfl
theorem nextCall{prog:Program}{w:c8}{A:ax}{s:af}{m it:Addr}{R:qs→af→Prop}(gm:s.heap.get? m=some {cls:=.type "method-wrapper",data:=.fields #[.builtin "list_iterator.__next__",.ref it]})
 (h:wpAny (model prog w) A.in1 (Builtin.«list_iterator.__next__» ⟨[.ref it],[]⟩) (λfin s'=>match fin with| .done f=>R (.ok f) s'| .again c'=>c'.quiet=true∧codeAny (model prog w) A c' R s') (λe s'=>R (.error e) s') s):
 codeAny (model prog w) A (.call (.ref m) ⟨[],[]⟩) R s:=by
 refine C3 ?_
 show wpAny _ _ (callAny (.ref m) _) _ _ _
 obtain⟨hh,g,dr,t,os⟩:=s
 dsimp only at gm
 unfold callAny
 refine wpAny_bind (wpAny_load gm ?_)
 dsimp only
 rw[if_pos (by decide)]
 show wpAny _ _ (if(fS "method-wrapper" !=fS "method")=true then(do checkBoundCall "list_iterator.__next__" ⟨[.ref it],[]⟩;again (.builtin "list_iterator.__next__" ⟨[.ref it],[]⟩))else _) _ _ _
 rw[if_pos (by decide)]
 refine wpAny_bind (wpAny_of_eq (xL _) ?_)
 refine wpAny_pure (⟨wd _ (by decide+kernel),ly As ?_⟩)
 exact h
theorem xD{prog:Program}{w:c8}{A:ax}{E:Value→af→Prop}{s:af}{it l:Addr}{i:Nat}{items:Array Value}{x:Value}{Q:Fin→af→Prop}(hit:s.heap.IsListIter it l i)(hl:s.heap.IsList l items)(hx:items[i]?=some x)
 (hQ:∀h',h'.IsListIter it l (i+1)→bv it s.heap h'→(∀o,s.heap.get? it=some o→∃o',h'.get? it=some o'∧o'.dict=o.dict)→Q (.done (.ret x)) {s with heap:=h'}):
 wpAny (model prog w) A (Builtin.«list_iterator.__next__» ⟨[.ref it],[]⟩) Q E s:=by
 obtain⟨o,ho,hc,hd⟩:=id hit
 obtain⟨ol,hol,_,nl,hdl⟩:=hl
 show wpAny _ _ (field (.ref it) 0>>= _) _ _ s
 refine wpAny_bind (bM ho hd (x:=.ref l) rfl ?_)
 show wpAny _ _ (if(dq l==aM)=true then _ else _) _ _ s
 rw[if_neg (show¬((dq l==aM)=true)from aH)]
 show wpAny _ _ (field (.ref it) 1>>= _) _ _ s
 refine wpAny_bind (bM ho hd (x:=.int i 0) rfl ?_)
 show wpAny _ _ (seqItems? (.ref l)>>= _) _ _ s
 refine wpAny_bind (fJ hol hdl ?_)
 simp only[a9,hx]
 have g':=bO (cx (·.setIfInBounds 1 (rawInt ((i:Int)+1)))) ho (gM (dH hd _))
 refine wpAny_bind (jH ho hd (by simp) (wpAny_pure (hQ _ ?_ (bD ..) λo2 h2=>⟨_,g',?_⟩)))
 ·exact⟨_,g',(Obj.cls_mapFields ..).trans hc,by rw[dH hd];simp[rawInt]⟩
 ·rw[ho]at h2;cases h2
  obtain⟨c,dd,dt,sl⟩:=o
  simp only at hd;subst hd;rfl
theorem zc{prog:Program}{w:c8}{A:ax}{E:Value→af→Prop}{s:af}{it l:Addr}{i:Nat}{items:Array Value}{Q:Fin→af→Prop}(hh:A.handled=none)(hit:s.heap.IsListIter it l i)(hl:s.heap.IsList l items)(hx:items[i]?=none)
 (hQ:∀h' (oI:Obj),s.heap.get? it=some oI→Az (s.heap.update it (cx (·.setIfInBounds 0 aM))) h' (s.heap.objs.size+1) (.type "StopIteration") []→E (.ref (s.heap.objs.size+1)) {s with heap:=h'}):
 wpAny (model prog w) A (Builtin.«list_iterator.__next__» ⟨[.ref it],[]⟩) Q E s:=by
 obtain⟨o,ho,hc,hd⟩:=id hit
 obtain⟨ol,hol,_,nl,hdl⟩:=hl
 show wpAny _ _ (field (.ref it) 0>>= _) _ _ s
 refine wpAny_bind (bM ho hd (x:=.ref l) rfl ?_)
 show wpAny _ _ (if(dq l==aM)=true then _ else _) _ _ s
 rw[if_neg (show¬((dq l==aM)=true)from aH)]
 show wpAny _ _ (field (.ref it) 1>>= _) _ _ s
 refine wpAny_bind (bM ho hd (x:=.int i 0) rfl ?_)
 show wpAny _ _ (seqItems? (.ref l)>>= _) _ _ s
 refine wpAny_bind (fJ hol hdl ?_)
 simp only[a9,hx]
 refine wpAny_bind (wpAny_rule (wpAny_bind (jH ho hd (by simp) ?_)))
 show wpAny _ _ (newExc (.type "StopIteration") []>>= _) _ _ _
 refine wpAny_bind ?_
 simp only[newExc,newTuple]
 refine wpAny_bind (dm ?_ (by size_fits))
 refine wpAny_bind (m:=firstArgMember _ _) (wpAny_of_eq (a:=aM) (by first|rfl|(simp only[firstArgMember];rfl)) ?_)
 refine dm ?_ (by size_fits)
 unfold raiseNew
 refine wpAny_bind (u3 ?_)
 rw[hh]
 refine wpAny_bind (wpAny_pure (yS ?_))
 generalize hH:s.heap.update it (cx (·.setIfInBounds 0 aM))=H at hQ⊢
 have hz:H.objs.size=s.heap.objs.size:=by rw[←hH];exact yG ..
 have hz2:(H.push {cls:=.type "tuple",dict:=none,data:=.seq ([]:List Value).toArray}).objs.size=s.heap.objs.size+1:=by rw[eY,hz]
 rw[hz2]
 refine hQ _ o ho ⟨λb ob hb=>aj _ (aj _ hb),?_,H.objs.size,?_,?_,?_⟩
 ·cases q:H.get? (s.heap.objs.size+1)with
  |none=>rfl
  |some ob=>have:=a8 q;rw[hz]at this;exact absurd this (et.mpr (gb _))
 ·rw[←hz2];exact aq _ rfl
 ·exact cX H
 ·exact aj _ (aq _ rfl)
end Mine
namespace Mine
variable{P:cH}{Fl:f9}{d:Nat}{sc:Scope}{ex:Nat→Value}
noncomputable def wz:DC:=λvs Q X hp=>∃l us,vs=[.ref l]∧hp l=some (.lst us)∧∀I,hp I=ac→Q (.ref I) (upd hp I (.it l 0))
theorem OkC.iter:OkC P Fl d (.builtin "iter") wz:=by
 rintro A s Q X hp stk vs xs rm fs ok r ⟨l,us,hv,hl,q⟩
 subst hv
 simp only[VRse]at r
 obtain⟨x,ys,rfl,rx,rfl⟩:=r
 simp only[VRe]at rx
 subst rx
 obtain⟨xs,p,rz⟩:=ok.obj _ _ hl
 refine call_function_entry (by decide+kernel) (by decide+kernel) kdk_entry_iter (kdk_args_iter _) ?_
 unfold Builtin.«iter»
 refine wpAny_bind (m:=someArgs "iter" 1 2 _) (wpAny_of_eq (a:=[dq l]) (by first|rfl|kernel_rfl!) ?_)
 show wpAny _ _ (pyIter (.ref l)>>= _) _ _ _
 refine wpAny_bind (BJ p.isList ?_)
 refine wpAny_pure ⟨_,rfl,?_⟩
 refine newTracked (tk:=s.toks) (o:=.it l 0) ok rfl ?_ q
 exact⟨⟨_,aq _ rfl,rfl,rfl⟩,_,aq _ rfl,rfl⟩
noncomputable def to:V→(V→Hp→Prop)→Hp→Prop:=λo Q hp=>match o with
 | .ref I=>∃l k,hp I=some (.it l k)∧Q (.nxt I) hp
 |_=>False
set_option tactic.hygienic true in
theorem OkGet.next:OkGet P "__next__" to:=by
 intro A s hp stk o x b Q X ok ro h
 cases o<;>first|exact h.elim|skip
 rename_i I
 obtain⟨l,k,hI,q⟩:=h
 simp only[VRe]at ro
 subst ro
 obtain⟨⟨ob,g,hc,hd⟩,o2,g2,hdn⟩:=ok.obj _ _ hI
 rw[g]at g2;cases g2
 obtain⟨hh,gg,dr,t,os⟩:=s
 refine vf g hc hdn hd ?_
 refine iP (s:=⟨hh,gg,dr,t,os⟩) (tk:=t+1) ok (λb o e=>aj _ e) q ?_
 simp only[VRe]
 exact⟨_,rfl,gW (s:=⟨hh,gg,dr,t,os⟩) ok,aq _ rfl⟩
theorem Sim.getAttr{n:Str}{f:V→(V→Hp→Prop)→Hp→Prop}(hf:OkGet P n f){o:Expr}{pos:Pos}{D:DE}(h:bz P Fl d sc o D)(hb:∀env,attributeBase o n env (eval o env)=eval o env):bz P Fl d sc (.Attribute o n pos) (bU f D):=by
 intro A env s Q X loc hp stk rm hs ev ok hD
 rw[T,jO,hb env]
 refine wpAny_bind ((h A env s _ X loc hp stk rm hs ev ok hD).thn λx hp1 s1 e1 ok1 hq=>?_)
 obtain⟨v,q,r⟩:=hq
 refine wpAny_bind (wpAny_standAt (wpAny_bind (wpAny_holding (wpAny_mono (hf A s1 hp1 stk v x true _ (lX Fl X) ok1 r q) (λy s2 z=>?_) λw w z=>z.back P e1))))
 exact wpAny_bind (iM (wpAny_pure (z.back P e1)))
noncomputable def wu(e:DE):DE:=λQ X loc hp=>e (λv hp1=>∃I l k us,v= .nxt I∧hp1 I=some (.it l k)∧hp1 l=some (.lst us)∧match us[k]? with
 |some u=>Q u (upd hp1 I (.it l (k+1)))
 |ac=>X 0 (del hp1 I)) X loc hp
theorem Sim.next(hd:0<d)(hex:ex 0= .type "StopIteration"){f:Expr}{pos:Pos}{D:DE}(h:bz P (cj ex) d sc f D)
 (hc:∀env,eval (.Call f [] [] pos) env=(do callWith pos (←eval f env) [] (backTo pos (starEach [] env)) [])):bz P (cj ex) d sc (.Call f [] [] pos) (wu D):=by
 intro A env s Q X loc hp stk rm hs ev ok hD
 rw[T,hc env]
 refine wpAny_bind ((h A env s _ X loc hp stk rm hs ev ok hD).thn λx hp1 s1 e1 ok1 hq=>?_)
 obtain⟨v,⟨I,l,k,us,hv,hI,hl,q⟩,r⟩:=hq
 subst hv
 simp only[VRe]at r
 obtain⟨m,rfl,fm,gm⟩:=r
 refine jJ (R:=λh=>h.get? m=some {cls:=.type "method-wrapper",data:=.fields #[.builtin "list_iterator.__next__",.ref I]}) (λh g=>⟨_,.inr (.inl rfl),?_⟩) (PySem.evalArgs_none ⟨gm,?_⟩)
 ·unfold keeperOf
  exact(Et (part:=none) g).andThen (lz (by kernel_rfl))
 obtain⟨xs,p,rz⟩:=ok1.obj _ _ hl
 obtain⟨hit,o2,g2,hdn⟩:=ok1.obj _ _ hI
 have hIl:I≠l:=by rintro rfl;rw[hI]at hl;cases hl
 refine wpAny_call (nextCall gm ?_)
 cases hu:us[k]? with
 |some u=>
  rw[hu]at q
  obtain⟨y,hy,ry⟩:=rz.get hu
  refine xD hit p.isList (x:=y) (by rw[←bg];exact hy) λh' hit' sb kd=>?_
  obtain⟨o3,g3,hd3⟩:=kd _ g2
  have e2:Ext no1 stk hp1 s1 (upd hp1 I (.it l (k+1))) {s1 with heap:=h'}:=Ext.change (tk:=s1.toks) ok1 hI sb ⟨_,g3⟩
  have ok2:HeapOk P stk (upd hp1 I (.it l (k+1))) {s1 with heap:=h'}:=ok1.change (tk:=s1.toks) hI sb ⟨hit',o3,g3,hd3.trans hdn⟩
  exact⟨_,e1.trans e2,ok2,u,q,d5 e2 ry⟩
 |none=>
  rw[hu]at q
  have hl2:xs[k]?=ac:=by
   rw[pP,fX rz]
   exact jd.mp hu
  refine zc (rm.hd hd) hit p.isList hl2 λh' oI hoI hm=>?_
  obtain⟨ob,gI,hcI,hdI⟩:=id hit
  have sb:bv I s1.heap (s1.heap.update I (cx (·.setIfInBounds 0 aM))):=bD ..
  have g':=bO (cx (·.setIfInBounds 0 aM)) gI (gM (dH hdI _))
  have okA:HeapOk P stk (upd hp1 I .fld) {s1 with heap:=s1.heap.update I (cx (·.setIfInBounds 0 aM))}:=ok1.change (tk:=s1.toks) hI sb ⟨_,_,g',dH hdI _⟩
  have eA:Ext no1 stk hp1 s1 (upd hp1 I .fld) {s1 with heap:=s1.heap.update I (cx (·.setIfInBounds 0 aM))}:=Ext.change (tk:=s1.toks) ok1 hI sb ⟨_,g'⟩
  have okB:=okA.drop I
  have eB:=eA.trans (Ext.drop (own:=no1) (stk:=stk) I)
  have hdel:del (upd hp1 I O.fld) I=del hp1 I:=by
   funext b
   by_cases z:b=I
   ·subst z;simp
   ·rw[del_ne z,del_ne z,upd_ne z]
  rw[hdel]at okB eB
  obtain⟨hp3,e3,ok3,f3⟩:=uf (own:=no1) (k:=0) (ex:=ex) okB hm hex
  exact⟨hp3,(e1.trans eB).trans e3,ok3,(0,del hp1 I),q,f3⟩
theorem ok_iadd:nh P Fl (inplaceOp .Add) (nk (·+·)):=okInt b2_inv λA s G E i j t t' z k=>Fy (k _ _ λz z=>vInt)
theorem ok_isub:nh P Fl (inplaceOp .Sub) (nk (·- ·)):=okInt b2_inv λA s G E i j t t' z k=>Fx (k _ _ λz z=>vInt)
end Mine
namespace Mine
variable{P:cH}{Fl:f9}{d:Nat}{sc:Scope}{ex:Nat→Value}
theorem vy(l:List Nat):∀(k:Nat)(acc:Array Nat),gK (·++·) acc (ar k l.toArray)=(acc.toList++(ar k l).flatten).toArray:=by
 intro n_
 induction n_ with
 |zero=>
  intro acc
  simp
 |succ k ih=>
  intro acc
  simp[dh,ih,bC]
theorem Ba(l:List Nat)(n:Int):F6 ⟨l.toArray⟩ n=⟨((ar n.toNat l).flatten).toArray⟩:=by
 unfold F6
 split
 ·rename_i h
  have:n.toNat=0:=by lia
  rw[this];rfl
 ·split
  ·rename_i h1 h2
   simp only[zX,beq_iff_eq]at h2
   rcases h2 with h2|h2
   ·subst h2;simp
   ·have:l=[]:=by
     have:l.length=0:=by simpa[Er]using h2
     exact jV.mp this
    subst this;simp
  ·simp only[vy]
   simp
noncomputable def j7:B2:=λx y Q hp=>bothO (jP x) (jP y) (λa b=>(small a∨small b)∧Q (.int (a*b)) hp)
 (bothO (t6 x) (jP y) (λl n=> -(10 ^ 9)<n∧n<10 ^ 9∧l.length*n.toNat≤lim∧Q (.str (ar n.toNat l).flatten) hp)
  (∃n,y= .int n∧∃vs,bL hp x=some vs∧ -(10 ^ 9)<n∧n<10 ^ 9∧vs.length*n.toNat≤lim∧Q (.lst (ar n.toNat vs).flatten) hp))
theorem vQ{v u:V}{Q:V→Hp→Prop}{hp:Hp}(h:j7 v u Q hp):(∃a b,v= .int a∧u= .int b∧(small a∨small b)∧Q (.int (a*b)) hp)∨(∃l n,v= .str l∧u= .int n∧ -(10 ^ 9)<n∧n<10 ^ 9∧l.length*n.toNat≤lim∧Q (.str (ar n.toNat l).flatten) hp)∨∃n,u= .int n∧∃vs,bL hp v=some vs∧ -(10 ^ 9)<n∧n<10 ^ 9∧vs.length*n.toNat≤lim∧Q (.lst (ar n.toNat vs).flatten) hp:=by
 rcases bothO_inv h with⟨i,j,e1,e2,h⟩|h
 ·exact .inl ⟨i,j,asInt_inv e1,asInt_inv e2,h⟩
 ·rcases bothO_inv h with⟨i,j,e1,e2,h⟩|h
  ·exact .inr (.inl ⟨i,j,asStr_inv e1,asInt_inv e2,h⟩)
  ·exact .inr (.inr h)
theorem VRs.rep{F:Addr→Prop}{h:Heap}{vs:List V}{xs:List Value}(r:VRs P.nm F h vs xs):∀k:Nat,VRs P.nm F h (ar k vs).flatten (ar k xs).flatten:=by
 intro n_
 induction n_ with
 |zero=>
  simpa using vNil
 |succ k ih=>
  simpa[dh]using r.append (ih)
theorem ze{A:ax}{E:Value→af→Prop}{prog:Program}{w:c8}{s:af}{l:Addr}{items:Array Value}{k:Nat}{x:Int}{u:Tok}{Q:Value→af→Prop}(hl:IsL s.heap l items k)(hlo: -(2 ^ 63:Int)≤x)(hhi:x<2 ^ 63)(hsz:items.size*x.toNat≤2 ^ 24)
 (h:Q (.ref s.heap.objs.size) {s with heap:=s.heap.push {cls:=.type "list",data:=.seq (gK (λx1 x2=>x1++x2) #[] (ar (if items.isEmpty=true then 0 else x.toNat) items))}}):
 wpAny (model prog w) A (binaryOp .Mult (.ref l) (.int x u)) Q E s:=
 wpAny_binaryOp_repeat_ref (T:= "list") (U:= "int") (by decide) ⟨_,hl,rfl⟩ (λs'=>typeIs_int s' x u) noFill_list_mul PySem.F.fills_int_mul PySem.F.slot_int_rmul repeat_list PySem.F.slot_int_index.lookup
  (fH PySem.F.slot_int_rmul (typeIs_int s x u) PySem.F.entry_int_rmul (PySem.F.args_int_rmul_2 _ _) (int___rmul___int_list x u l items k)
   ⟨hl,rfl,⟨_,hl,rfl⟩,fH PySem.F.slot_list_mul ⟨_,hl,rfl⟩ PySem.F.entry_list_mul (PySem.F.args_list_mul_2 _ _)
    (F1 l items k x u (by rw[DP];lia) (by lia) (by simp[DN,sizeLine];lia)) ⟨hl,h⟩⟩)
theorem ok_mulA:nh P Fl (binaryOp .Mult) j7:=by
 intro A s Q X hp stk v u x y rm ok rv ru h
 have lists:∀n:Int,u= .int n→(∃vs,bL hp v=some vs∧ -(10 ^ 9)<n∧n<10 ^ 9∧vs.length*n.toNat≤lim∧Q (.lst (ar n.toNat vs).flatten) hp)→T P no1 stk A (binaryOp .Mult x y) hp s (PV P stk Q) (lX Fl X):=by
  rintro n rfl ⟨vs,hv,h1,h2,h3,q⟩
  obtain⟨t,rfl⟩:=ru
  obtain⟨a,xs,rfl,⟨k,g⟩,rz⟩:=aU ok rv hv
  have hz:=fX rz
  unfold lim at h3
  refine ze g (by lia) (by lia) (by rw[hz];lia) ?_
  refine jh (tk:=s.toks) ok ?_ q
  rw[listMul_foldl]
  dsimp only[aX,Array.toList_empty]
  cases hE:xs.isEmpty with
  |true=>
   have h0:xs.toList=[]:=by
    have:xs= #[]:=by simpa using hE
    rw[this]
   rw[h0]at rz⊢
   have:=VRs.rep rz n.toNat
   simpa using this
  |false=>simpa using VRs.rep rz n.toNat
 rcases vQ h with⟨a,b,rfl,rfl,hc,h⟩|⟨l,n,rfl,rfl,h1,h2,h3,q⟩|⟨n,rfl,h5⟩
 ·obtain⟨t,rfl⟩:=jy rv
  obtain⟨t',rfl⟩:=jy ru
  exact vh hc λy tk hy=>fV ok h (hy _ _)
 rotate_left
 ·exact lists _ rfl h5
 ·obtain⟨t,rfl⟩:=qK rv
  refine(jy ru).elim λt' e1_=>?_;subst e1_
  refine SB.mul ⟨?_,λhn hx=>?_,λhn hx=>?_⟩ λt' k=>?_
  ·rw[decide_eq_false (by lia),decide_eq_false (by lia)];rfl
  ·have hl:((⟨l.toArray⟩:Str).length:Int)=l.length:=rfl
   rw[hl]
   have h4:(l.length:Int)*n≤lim:=by
    have:((l.length*n.toNat:Nat):Int)≤(lim:Nat):=by exact_mod_cast h3
    rw[Int.natCast_mul,wc (by lia)]at this
    exact this
   have h5:(l.length:Int)≤(2 ^ 63 - 1) / n:=by
    rw[Int.le_ediv_iff_mul_le (by lia)]
    unfold lim at h4;lia
   lia
  ·have hl:(⟨l.toArray⟩:Str).length=l.length:=by simp[Er]
   rw[hl]
   unfold EX
   have:=dZ
   simp only[decide_eq_false_iff_not];lia
  ·rw[Ba];exact fV ok q wf
theorem meets_bool_list(a:Addr)(xs:Array Value)(hfit:(xs.size:Int)<2 ^ 63):Meets (Builtin.«bool.__new__» ⟨[.type "bool",.ref a],[]⟩) (λz R s=>s.heap.IsList a xs∧R (.ok (.ret (.bool (!xs.isEmpty)))) {s with toks:=s.toks+1+1}):=
 Meets.of_wp λprog w A R s ⟨hl,hs⟩=>by
  obtain⟨hp,g,d,tk,os⟩:=s
  have f1:=PySem.F.conv_sub_bool
  repeat (any_goals (first|assumption|with_reducible apply BH hl hfit|wp_step))
  all_goals first|exact⟨_,rfl,hs⟩|skip
noncomputable def Al:DC:=λvs Q X hp=>∃v us,vs=[v]∧bL hp v=some us∧us.length≤lim∧Q (.bool (!us.isEmpty)) hp
theorem OkC.bool:OkC P Fl d (.type "bool") Al:=by
 rintro A s Q X hp stk vs xs rm fs ok r ⟨v,us,hv,hu,hl,q⟩
 subst hv
 obtain⟨x,ys,rfl,rx,rfl⟩:=r
 obtain⟨a,xs,rfl,p,rz⟩:=aU ok rx hu
 have hz:=fX rz
 unfold lim at hl
 have he:(!xs.isEmpty)= !us.isEmpty:=by
  cases us with
  |nil=>have:xs= #[]:=nH (by simpa using hz)
        rw[this];rfl
  |cons u us=>
   have:xs.isEmpty=false:=by rw[pO];intro e0;rw[e0]at hz;simp at hz
   rw[this];rfl
 refine call_bool_1 (meets_bool_list a xs (by lia)) ⟨p.isList,?_⟩
 exact⟨rfl,by rw[he];exact fV ok q io⟩
end Mine
namespace Mine
variable{P:cH}{Fl:f9}{d:Nat}{sc:Scope}
inductive ZS where
 |li (i l:Addr) (us:List V)
 |ra (i:Addr) (lo hi:Int)
noncomputable def ZS.a:ZS→Addr
 | .li i l us=>i
 | .ra i lo hi=>i
noncomputable def ZS.vs:ZS→List V
 | .li i l us=>us
 | .ra i lo hi=>dK lo hi
noncomputable def ZS.St(k:Nat)(h:Heap):ZS→Prop
 | .li i l us=>h.IsListIter i l k
 | .ra i lo hi=>IsRangeIter h i (lo+(k:Int)) (((hi - lo).toNat:Int) - (k:Int)) 1
noncomputable def ZS.R(nm:Nat→Str)(F:Addr→Prop)(h:Heap):ZS→Prop
 | .li i l us=>F l∧∃xs,h.PlainList l xs∧VRs nm F h us xs.toList
 | .ra i lo hi=>True
theorem ZS.rk{nm:Nat→Str}{F F':Addr→Prop}{h h':Heap}(ky:bB F F' h h'):∀{z:ZS},z.R nm F h→z.R nm F' h'
 | .li i l us,⟨f,xs,p,r⟩=>⟨(eN ky f p).1,xs,(eN ky f p).2,r.keep ky⟩
 | .ra i lo hi,_=>trivial
theorem ZS.fr{h h':Heap}{k:Nat}:∀{z:ZS},z.St k h→(∀o,h.get? z.a=some o→h'.get? z.a=some o)→z.St k h'
 | .li i l us,⟨o,e,q⟩,ky=>⟨o,ky o e,q⟩
 | .ra i lo hi,e,ky=>ky _ e
theorem ZS.live{h:Heap}{k:Nat}:∀{z:ZS},z.St k h→∃o,h.get? z.a=some o∧¬ng o∧o.cls≠ .type "zip"
 | .li i l us,⟨o,e,c,q⟩=>⟨o,e,nD_fields q,by rw[c];decide⟩
 | .ra i lo hi,e=>⟨_,e,nD_fields rfl,by show fS "range_iterator" ≠fS "zip";decide⟩
theorem oh{F:Addr→Prop}{h h':Heap}{i:Addr}(nf:¬F i)(sb:bv i h h'):bB F F h h':=λa o f g=>⟨f,(sb.2 a (λz=>nf (z▸f))).trans g⟩
theorem qQ{prog:Program}{w:c8}{A:ax}{E:Value→af→Prop}{s:af}{it:Addr}{x left step:Int}{Q:Value→af→Prop}(hit:IsRangeIter s.heap it x left step)(hleft:0<left)
 (hQ:∀h',IsRangeIter h' it (x+step) (left - 1) step→bv it s.heap h'→Q (.int x s.toks) {s with heap:=h',toks:=s.toks+1}):
 wpAny (model prog w) A (be (.ref it)) Q E s:=by
 have hT:s.TypeIs (.ref it) "range_iterator" :=⟨_,hit,rfl⟩
 unfold be
 refine wpAny_bind (wpAny_callSpecial?_slot (name:=ag "__next__") hT F.slot_range_iterator_next
  (fH F.slot_range_iterator_next hT F.entry_range_iterator_next (F.args_range_iterator_next_1 _) (F0 it x left step (by omega)) ⟨hit,?_⟩))
 exact wpAny_pure (hQ _ (bO _ (bO _ hit rfl) rfl) ((bD ..).trans (bD ..)))
theorem mW{prog:Program}{w:c8}{A:ax}{E:Value→af→Prop}{s:af}{it:Addr}{x left step:Int}{Q:Value→af→Prop}(hh:A.handled=none)(hit:IsRangeIter s.heap it x left step)(hleft:left≤0)
 (hE:∀h' e,uN it s.heap h'→(∃o,h'.get? it=some o)→(∃o,h'.get? e=some o∧o.cls= .type "StopIteration")→E (.ref e) {s with heap:=h'}):wpAny (model prog w) A (be (.ref it)) Q E s:=by
 have hT:s.TypeIs (.ref it) "range_iterator" :=⟨_,hit,rfl⟩
 unfold be
 refine wpAny_bind (wpAny_callSpecial?_slot (name:=ag "__next__") hT F.slot_range_iterator_next
  (eC F.slot_range_iterator_next hT F.entry_range_iterator_next ?_ (F.args_range_iterator_next_1 _)))
 show wpAny _ _ (field (.ref it) 0>>= _) _ _ s
 refine wpAny_bind (bM hit rfl (x:=rawInt x) rfl ?_)
 show wpAny _ _ (field (.ref it) 1>>= _) _ _ s
 refine wpAny_bind (bM hit rfl (x:=rawInt left) rfl ?_)
 show wpAny _ _ (field (.ref it) 2>>= _) _ _ s
 refine wpAny_bind (bM hit rfl (x:=rawInt step) rfl ?_)
 show wpAny _ _ (if left≤0 then _ else _) _ _ s
 rw[if_pos hleft]
 refine wpAny_bind (wpAny_rule ?_)
 refine wpAny_bind ?_
 show wpAny _ _ (newExc (.type "StopIteration") []>>= _) _ _ _
 refine wpAny_bind ?_
 simp only[newExc,newTuple]
 refine wpAny_bind (dm ?_ (by size_fits))
 refine wpAny_bind (m:=firstArgMember _ _) (wpAny_of_eq (a:=aM) (by first|rfl|(simp only[firstArgMember];rfl)) ?_)
 refine dm ?_ (by size_fits)
 dsimp only[raiseNew]
 refine wpAny_bind (u3 ?_)
 first|rw[show A.in1.handled=none from hh]|rw[hh]
 refine wpAny_bind (wpAny_pure (yS ?_))
 exact hE _ _ (((EV it s.heap).push _).push _) ⟨_,aj _ (aj _ hit)⟩ ⟨_,aq _ rfl,rfl⟩
theorem nB{prog:Program}{w:c8}{A:ax}{E:Value→af→Prop}{s:af}{it l:Addr}{i:Nat}{items}{Q:Value→af→Prop}(hh:A.handled=none)
 (hit:s.heap.IsListIter it l i)(hl:s.heap.IsList l items)(hx:items[i]?=none)
 (hE:∀h' e,uN it s.heap h'→(∃o,h'.get? it=some o)→(∃o,h'.get? e=some o∧o.cls= .type "StopIteration")→E (.ref e) {s with heap:=h'}):
 wpAny (model prog w) A (be (.ref it)) Q E s:=by
 refine(id hit).elim λo r1_=>r1_.elim λho r2_=>r2_.elim λhc hd=>?_
 refine hl.elim λol r1_=>r1_.elim λhol r2_=>r2_.elim λz r4_=>r4_.elim λnl hdl=>?_
 unfold be
 refine wpAny_bind (wpAny_callSpecial?_slot (name:=ag "__next__") hit.typeIs Bx
  (eC Bx hit.typeIs As ?_ (args_listiter_next _)))
 show wpAny _ _ (field (.ref it) 0>>= _) _ _ s
 refine wpAny_bind (bM ho hd (x:=.ref l) rfl ?_)
 show wpAny _ _ (if(dq l==aM)=true then _ else _) _ _ s
 rw[if_neg (show¬((dq l==aM)=true)from aH)]
 show wpAny _ _ (field (.ref it) 1>>= _) _ _ s
 refine wpAny_bind (bM ho hd (x:=.int i 0) rfl ?_)
 show wpAny _ _ (seqItems? (.ref l)>>= _) _ _ s
 refine wpAny_bind (fJ hol hdl ?_)
 simp only[a9,hx]
 refine wpAny_bind (wpAny_rule (wpAny_bind (jH ho hd (by simp) ?_)))
 show wpAny _ _ (newExc (.type "StopIteration") []>>= _) _ _ _
 refine wpAny_bind ?_
 simp only[newExc,newTuple]
 refine wpAny_bind (dm ?_ (by size_fits))
 refine wpAny_bind (m:=firstArgMember _ _) (wpAny_of_eq (a:=aM) (by first|rfl|(simp only[firstArgMember];rfl)) ?_)
 refine dm ?_ (by size_fits)
 dsimp only[raiseNew]
 refine wpAny_bind (u3 ?_)
 first|rw[show A.in1.handled=none from hh]|rw[hh]
 refine wpAny_bind (wpAny_pure (yS ?_))
 exact hE _ _ (((bD ..).extBut.push _).push _) ⟨_,aj _ (aj _ (bO _ ho (gM (dH hd _))))⟩ ⟨_,aq _ rfl,rfl⟩
theorem AY{A:ax}{E:Value→af→Prop}{s:af}{F:Addr→Prop}{z:ZS}{k:Nat}{v:V}{Q:Value→af→Prop}(hk:z.vs[k]?=some v)(st:z.St k s.heap)(r:z.R P.nm F s.heap)(nf:¬F z.a)
 (hQ:∀y h' tk,VR P.nm F h' v y→z.St (k+1) h'→bv z.a s.heap h'→Q y {s with heap:=h',toks:=tk}):wpAny P.M A (be (.ref z.a)) Q E s:=by
 cases z with
 |li i l us=>
  obtain⟨f,xs,p,rx⟩:=r
  refine(rx.get hk).elim λy r1_=>r1_.elim λey ry=>?_
  refine wpAny_nextOf_list_item st p.isList (x:=y) (by rw[←bg];exact ey) λh' st' sb=>hQ y h' s.toks (ry.keep (oh nf sb)) st' sb
 |ra i lo hi=>
  have hk':k<(dK lo hi).length:=(dL.mp hk).1
  have hl:=gJ (lo:=lo) (hi:=hi)
  have st':IsRangeIter s.heap i (lo+(k:Int)) (((hi - lo).toNat:Int) - (k:Int)) 1:=st
  refine qQ st' (by lia) λh' st' sb=>hQ _ h' _ ?_ ?_ sb
  ·have:v= .int (lo+k):=by
    have e:(dK lo hi)[k]?=some v:=hk
    rw[au hk',m5]at e;cases e;rfl
   rw[this];exact vInt
  ·show IsRangeIter h' i _ _ 1
   have e1:lo+((k+1:Nat):Int)=lo+(k:Int)+1:=by lia
   have e2:((hi - lo).toNat:Int) - ((k+1:Nat):Int)=((hi - lo).toNat:Int) - (k:Int) - 1:=by lia
   rw[e1,e2];exact st'
theorem Cm{A:ax}{E:Value→af→Prop}{s:af}{F:Addr→Prop}{z:ZS}{k:Nat}{Q:Value→af→Prop}(hh:A.handled=none)(hk:k=z.vs.length)(st:z.St k s.heap)(r:z.R P.nm F s.heap)
 (hE:∀h' e,uN z.a s.heap h'→(∃o,h'.get? z.a=some o)→(∃o,h'.get? e=some o∧o.cls= .type "StopIteration")→E (.ref e) {s with heap:=h'}):wpAny P.M A (be (.ref z.a)) Q E s:=by
 subst hk
 cases z with
 |li i l us=>
  obtain⟨f,xs,p,rx⟩:=r
  have hl:=rx.length
  exact nB hh st p.isList (by rw[←bg];exact bH (by show _≤us.length;lia)) hE
 |ra i lo hi=>
  have st':IsRangeIter s.heap i _ _ 1:=st
  refine mW hh st' ?_ hE
  have:=gJ (lo:=lo) (hi:=hi)
  show((hi - lo).toNat:Int) - ((dK lo hi).length:Int)≤0
  lia
theorem Co{prog:Program}{w:c8}{A:ax}{E:Value→af→Prop}{s:af}{T:Addr}{xs:Array Value}{x:Value}{k:Nat}{Q:Unit→af→Prop}(hT:s.heap.get? T=some {cls:=.type "tuple",data:=.seq xs})(hs:xs.size≤8)
 (h:∀h',h'.get? T=some {cls:=.type "tuple",data:=.seq (xs.setIfInBounds k x)}→bv T s.heap h'→Q () {s with heap:=h'}):
 wpAny (model prog w) A (updateSeq T (·.setIfInBounds k x)) Q E s:=by
 have e1:xs.size≤sizeLine:=ae hs (by decide)
 refine wpAny_updateSeq hT rfl (h _ ?_ (bD ..)) e1 (by show(xs.setIfInBounds k x).size≤_;rw[Array.size_setIfInBounds];exact cG e1)
 rw[bO _ hT rfl]
 simp[cQ]
noncomputable abbrev lD(h:Heap)(T:Addr)(xs:List Value):Prop:=h.get? T=some {cls:=.type "tuple",data:=.seq ⟨xs⟩}
theorem xl{β:Type}{A:ax}{E:Value→af→Prop}{F:Addr→Prop}{TO:Addr}{k:Nat}{f:Value×Nat→β→Sem (ForInStep β)}{b:β}{Q:β→af→Prop}
 (step:∀(y:ZS)(v:V)(n:Nat)(s:af)(xs:List Value)(R:af→Prop),¬F y.a→TO≠y.a→lD s.heap TO xs→xs.length≤8→y.St k s.heap→y.R P.nm F s.heap→y.vs[k]?=some v→
  (∀x h' tk,VR P.nm F h' v x→y.St (k+1) h'→lD h' TO (xs.set n x)→h'.objs.size=s.heap.objs.size→(∀c,c≠TO→c≠y.a→h'.get? c=s.heap.get? c)→R {s with heap:=h',toks:=tk})→
  wpAny P.M A (f (.ref y.a,n) b) (λr s'=>r= .yield b∧R s') E s)(nTO:¬F TO):
 ∀(zs:List ZS)(vs:List V)(pre os:List Value)(s:af),(TO::zs.map ZS.a).Nodup→(∀y∈zs,¬F y.a)→lD s.heap TO (pre++os)→os.length=zs.length→pre.length+os.length≤8→(∀y∈zs,y.St k s.heap∧y.R P.nm F s.heap)→zs.map (λy=>y.vs[k]?)=vs.map some→
  (∀h' tk xs,VRs P.nm F h' vs xs→lD h' TO (pre++xs)→(∀y∈zs,y.St (k+1) h')→h'.objs.size=s.heap.objs.size→(∀c,c∉TO::zs.map ZS.a→h'.get? c=s.heap.get? c)→Q b {s with heap:=h',toks:=tk})→
  wpAny P.M A (forIn ((zs.map λy=>dq y.a).zipIdx pre.length) b f) Q E s:=by
 intro zs
 induction zs with
 |nil=>
  intro vs pre os s _ _ t hl _ _ ev hQ
  cases os with
  |cons=>cases hl
  |nil=>
  cases vs with
  |cons=>cases ev
  |nil=>exact wpAny_pure (hQ s.heap s.toks [] (rfl) t (λz h=>nomatch h) rfl λz z=>rfl)
 |cons y zs ih=>
  intro vs pre os s nd nf t hl h9 st ev hQ
  cases os with
  |nil=>cases hl
  |cons o os=>
  cases vs with
  |nil=>cases ev
  |cons v vs=>
  refine(wb ev).elim λe1 e2=>?_
  rw[ao,aC,ah,not_or,aC]at nd
  obtain⟨⟨nT,nTz⟩,ny,nd⟩:=nd
  have hy:=nf y ai
  refine(st y ai).elim λs1 r1=>?_
  rw[ao,yB,pi]
  refine wpAny_bind (wpAny_mono (step y v pre.length s _ (λs'=>wpAny P.M A (forIn ((zs.map λy=>dq y.a).zipIdx (pre.length+1)) b f) Q E s') hy nT t (by rw[aw];exact h9) s1 r1 e1 λx h' tk rx s1' t' sz kk=>?_) (λr s' hq=>by obtain⟨rfl,q⟩:=hq;exact q) λz z q=>q)
  have e:(pre++o::os).set pre.length x=(pre++[x])++os:=by simp
  rw[e]at t'
  have nyz:∀w∈zs,w.a≠y.a:=λw hw e=>ny (e▸an.mpr ⟨w,hw,rfl⟩)
  have nTw:∀w∈zs,w.a≠TO:=λw hw e=>nTz (e▸an.mpr ⟨w,hw,rfl⟩)
  have ky:bB F F s.heap h':=λc oc fc g=>⟨fc,(kk c (λe=>nTO (e▸fc)) λe=>hy (e▸fc)).trans g⟩
  have le:(pre++[x]).length=pre.length+1:=aw
  rw[←le]
  refine ih vs (pre++[x]) os {s with heap:=h',toks:=tk} (aC.mpr ⟨nTz,nd⟩) (λw hw=>nf w (am _ hw)) t' (ql hl) (by rw[le];simp only[aE]at h9;lia)
   (λw hw=>⟨ZS.fr (st w (am _ hw)).1 λo g=>(kk _ (nTw w hw) (nyz w hw)).trans g,ZS.rk ky (st w (am _ hw)).2⟩) e2 λh2 tk2 xs rs t2 st2 sz2 kk2=>?_
  have k2:∀c,c∉TO::zs.map ZS.a→c≠y.a→h2.get? c=s.heap.get? c:=λc h1 h2=>(kk2 c h1).trans (kk c (λe=>h1 (e▸ai)) h2)
  have hyn:y.a∉TO::zs.map ZS.a:=λh=>(ah.mp h).elim (λe=>nT e.symm) ny
  have ky2:bB F F h' h2:=λc oc fc g=>⟨fc,(kk2 c λh=>(ah.mp h).elim (λe=>nTO (e▸fc)) λh=>(by obtain⟨w,hw,rfl⟩:=an.mp h;exact nf w (am _ hw) fc)).trans g⟩
  refine hQ h2 tk2 (x::xs) (by simp only[VRse];exact⟨_,_,rfl,rx.keep ky2,rs⟩) (by rw[bC]at t2;exact t2) (λw hw=>?_) (sz2.trans sz) λc hc=>?_
  ·rcases ah.mp hw with rfl|hw
   ·exact ZS.fr s1' λo g=>(kk2 _ hyn).trans g
   ·exact st2 w hw
  ·simp only[ao,ah,not_or]at hc
   exact k2 c (λh=>(ah.mp h).elim hc.1 hc.2.2) hc.2.1
theorem u6{A:ax}{E:Value→af→Prop}{s:af}{F:Addr→Prop}{z TI TO:Addr}{zs:List ZS}{k:Nat}{vs:List V}{os:List Value}{Q:Value→af→Prop}(nd:(z::TO::zs.map ZS.a).Nodup)(nf:∀c∈z::TO::zs.map ZS.a,¬F c)
 (ne:zs≠ [])(hz:mq s.heap z TI TO .none)(hTI:lD s.heap TI (zs.map λy=>.ref y.a))(hTO:lD s.heap TO os)(hos:os.length=zs.length)(h9:os.length≤8)
 (st:∀y∈zs,y.St k s.heap∧y.R P.nm F s.heap)(ev:zs.map (λy=>y.vs[k]?)=vs.map some)
 (hQ:∀h' tk xs (T:Nat),VRs P.nm F h' vs xs→mq h' z TI TO (rawInt T)→lD h' TO xs→(∀y∈zs,y.St (k+1) h')→lD h' T xs→s.heap.get? T=ac→
  (∀c o,c∉z::TO::zs.map ZS.a→s.heap.get? c=some o→h'.get? c=some o)→Q (.ref T) {s with heap:=h',toks:=tk}):
 wpAny P.M A (Builtin.«zip.__next__» ⟨[.ref z],[]⟩) (λfin s'=>∃v,fin= .done (.ret v)∧Q v s') E s:=by
 rw[aC,ah,not_or]at nd
 obtain⟨⟨nzT,nzz⟩,nd⟩:=nd
 have fz:=nf z ai;have fTO:=nf TO (am _ ai)
 have fy:∀y∈zs,¬F y.a:=λy hy=>nf _ (am _ (am _ (an.mpr ⟨y,hy,rfl⟩)))
 have nzy:∀y∈zs,y.a≠z:=λy hy e=>nzz (e▸an.mpr ⟨y,hy,rfl⟩)
 have hne:((⟨zs.map λy=>dq y.a⟩:Array Value)).isEmpty=false:=by
  cases zs with
  |nil=>exact absurd rfl ne
  |cons=>rfl
 show wpAny _ _ (field (.ref z) 2>>= _) _ _ _
 refine wpAny_bind (bM hz rfl (x:=.bool false) rfl ?_)
 show wpAny _ _ (field (.ref z) 3>>= _) _ _ _
 refine wpAny_bind (bM hz rfl (x:=.ref TI) rfl ?_)
 refine wpAny_bind (fJ hTI rfl ?_)
 simp only[hne,cg,if_false]
 show wpAny _ _ (cL (.ref z)>>= _) _ _ _
 refine wpAny_bind ?_
 unfold cL
 refine wpAny_bind (bM hz rfl (x:=.none) rfl (wpAny_pure ?_))
 simp only[if_true]
 refine wpAny_bind (wpAny_rule ?_)
 refine wpAny_bind (bM hz rfl (x:=.ref TO) rfl ?_)
 refine wpAny_bind (wpAny_setField_rec hz (by simp) λh₁ hz₁ hs₁=>?_)
 replace hz₁:mq h₁ z TI TO .ellipsis:=hz₁
 have k₁:=oh fz hs₁
 refine wpAny_bind (xl (P:=P) (F:=F) (TO:=TO) (k:=k) (λy v n s xs R ny nT t l9 s1 r1 e1 hR=>?_) fTO zs vs [] os {s with heap:=h₁} nd fy ((hs₁.2 _ (aI nzT)).trans hTO) hos (by simpa using h9)
  (λy hy=>⟨ZS.fr (st y hy).1 λo g=>(hs₁.2 _ (nzy y hy)).trans g,ZS.rk k₁ (st y hy).2⟩) ev λh₅ tk xs rs t₅ st5 sz kk=>?_)
 ·refine wpAny_bind (E8 ?_)
  show wpAny _ _ (be (.ref y.a)>>= _) _ _ _
  refine wpAny_bind (AY e1 s1 r1 ny λx h₂ tk₂ rx s2 hs₂=>wpAny_pure ?_)
  have t₂:lD h₂ TO xs:=(hs₂.2 _ nT).trans t
  refine wpAny_bind (fJ t₂ rfl ?_)
  refine wpAny_bind (Co t₂ (l9) λh₃ t₃ hs₃=>?_)
  refine wpAny_bind (wpAny_letGo (wpAny_pure ⟨rfl,hR x h₃ tk₂ (rx.keep (oh fTO hs₃)) (ZS.fr s2 λo g=>(hs₃.2 _ (aI nT)).trans g) ?_ (hs₃.1.trans hs₂.1) λc c1 c2=>(hs₃.2 _ c1).trans (hs₂.2 _ c2)⟩))
  rw[List.setIfInBounds_toArray]at t₃
  exact t₃
 have h₅s:h₅.objs.size=s.heap.objs.size:=sz.trans hs₁.1
 have zk:mq h₅ z TI TO .ellipsis:=(kk z λh=>(ah.mp h).elim nzT nzz).trans hz₁
 have lx:xs.length≤8:=by
  have h1:=rs.length
  have h2:=congrArg oJ ev
  rw[ak,ak]at h2
  lia
 refine wpAny_bind (fJ t₅ rfl ?_)
 refine wpAny_bind (El ?_ (ae lx (by decide)))
 have lt:∀{c o},h₅.get? c=some o→c≠h₅.objs.size:=λg=>gy (a8 g)
 show wpAny _ _ (iZ (.ref z) (.ref h₅.objs.size)>>= _) _ _ _
 refine wpAny_bind ?_
 unfold iZ
 have hz₆:mq (h₅.push {cls:=.type "tuple",data:=.seq ⟨xs⟩}) z TI TO .ellipsis:=aj _ zk
 refine wpAny_bind (wpAny_setField_rec hz₆ (by simp) λh₇ hz₇ hs₇=>?_)
 replace hz₇:mq h₇ z TI TO (rawInt h₅.objs.size):=hz₇
 refine wpAny_setField_rec hz₇ (by simp) λh₈ hz₈ hs₈=>?_
 replace hz₈:mq h₈ z TI TO (rawInt h₅.objs.size):=hz₈
 have up:∀c o,c≠z→h₅.get? c=some o→h₈.get? c=some o:=λc o c1 e=>(hs₈.2 _ c1).trans ((hs₇.2 _ c1).trans (aj _ e))
 have hT₈:lD h₈ h₅.objs.size xs:=(hs₈.2 _ (aI (lt zk))).trans ((hs₇.2 _ (aI (lt zk))).trans (aq _ rfl))
 refine wpAny_pure ⟨_,rfl,hQ h₈ _ xs h₅.objs.size (rs.keep λc o f g=>⟨f,up c o (λq=>fz (q▸f)) g⟩) hz₈ (up _ _ (aI nzT) t₅) (λy hy=>ZS.fr (st5 y hy) λo g=>up _ o (nzy y hy) g) hT₈ (h₅s▸cX _) λc o hc g=>?_⟩
 rw[ah,not_or]at hc
 exact up c o hc.1 ((kk c hc.2).trans ((hs₁.2 _ hc.1).trans g))
theorem yU{A:ax}{s:af}{F:Addr→Prop}{z TI TO:Addr}{z1:ZS}{rest:List Value}{ts:Array Value}{k:Nat}{Q:Fin→af→Prop}{E:Value→af→Prop}(hh:A.handled=none)(nz1:z≠z1.a)
 (nfz:¬F z)(hz:mq s.heap z TI TO .none)(hTI:s.heap.get? TI=some {cls:=.type "tuple",data:=.seq ts})(hts:ts.toList= .ref z1.a::rest)
 (s1:z1.St k s.heap)(r1:z1.R P.nm F s.heap)(hk:k=z1.vs.length)
 (hE:∀h' e,(∀c o,c≠z→c≠z1.a→s.heap.get? c=some o→h'.get? c=some o)→(∃o,h'.get? z=some o)→(∃o,h'.get? z1.a=some o)→(∃o,h'.get? e=some o∧o.cls= .type "StopIteration")→E (.ref e) {s with heap:=h'}):
 wpAny P.M A (Builtin.«zip.__next__» ⟨[.ref z],[]⟩) Q E s:=by
 have hne:ts.isEmpty=false:=by
  cases hq:ts.isEmpty with
  |false=>rfl
  |true=>rw[Array.isEmpty_iff]at hq;rw[hq]at hts;cases hts
 show wpAny _ _ (field (.ref z) 2>>= _) _ _ _
 refine wpAny_bind (bM hz rfl (x:=.bool false) rfl ?_)
 show wpAny _ _ (field (.ref z) 3>>= _) _ _ _
 refine wpAny_bind (bM hz rfl (x:=.ref TI) rfl ?_)
 refine wpAny_bind (fJ hTI rfl ?_)
 simp only[hne,cg,if_false]
 show wpAny _ _ (cL (.ref z)>>= _) _ _ _
 refine wpAny_bind ?_
 unfold cL
 refine wpAny_bind (bM hz rfl (x:=.none) rfl (wpAny_pure ?_))
 simp only[if_true]
 refine wpAny_bind (wpAny_rule ?_)
 refine wpAny_bind (bM hz rfl (x:=.ref TO) rfl ?_)
 refine wpAny_bind (wpAny_setField_rec hz (by simp) λh₁ hz₁ hs₁=>?_)
 replace hz₁:mq h₁ z TI TO .ellipsis:=hz₁
 refine wpAny_bind ?_
 simp only[hts,yB,pi]
 refine wpAny_bind (wpAny_bind (E8 ?_))
 show wpAny _ _ (be (.ref z1.a)>>= _) _ _ _
 refine wpAny_bind (Cm hh hk (ZS.fr s1 λo g=>(hs₁.2 _ (aI nz1)).trans g) (ZS.rk (oh nfz hs₁) r1) λh₂ e hs₂ al he=>?_)
 refine al.elim λoi hoi=>?_
 obtain⟨oe,hoe,hce⟩:=he
 have hz₂:mq h₂ z TI TO .ellipsis:=hs₂ _ _ nz1 hz₁
 have hez:e≠z:=λx=>by subst x;rw[hz₂]at hoe;cases hoe;simp at hce
 refine wpAny_setField_rec hz₂ (by simp) λh₃ hz₃ hs₃=>hE h₃ e (λc o c1 c3 x=>(hs₃.2 _ c1).trans (hs₂ _ _ c3 ((hs₁.2 _ c1).trans x))) ⟨_,hz₃⟩ ⟨oi,(hs₃.2 _ (aI nz1)).trans hoi⟩ ⟨oe,(hs₃.2 _ hez).trans hoe,hce⟩
end Mine
namespace Mine
variable{P:cH}{Fl:f9}{d:Nat}{sc:Scope}
noncomputable def zip2(us vs:List V):List V:=List.zipWith (λa b=>.tup [a,b]) us vs
theorem rF{us vs:List V}(h:us.length≤vs.length):us.length=(zip2 us vs).length:=(List.length_zipWith.trans (iE h)).symm
theorem yV{us vs:List V}{k:Nat}(h:us.length≤vs.length)(hk:k<(zip2 us vs).length):∃ws,(zip2 us vs)[k]= .tup ws∧[us[k]?,vs[k]?]=ws.map some:=by
 have h1:=rF h▸hk
 exact⟨[us[k],vs[k]'(aA h1 h)],List.getElem_zipWith,by rw[au h1,au (aA h1 h)];rfl⟩
noncomputable def pt:O→Option (List V)
 | .itl us=>some us
 | .itr lo hi=>some (dK lo hi)
 |_=>ac
inductive t7(hp hp':Hp)(z:Addr)(ts:List V):Prop
 |mk (TI TO:Addr) (p0:Addr×O) (ss:List (Addr×O)) (u0:List V) (nd:(z::TO::(p0::ss).map (·.1)).Nodup) (hn:∀a∈z::TO::(p0::ss).map (·.1),hp a=ac) (off:∀a,a∉z::TO::(p0::ss).map (·.1)→hp' a=hp a)
  (hz:hp' z=some (.zip TI TO ((p0::ss).map (·.1)))) (hO:hp' TO=some (.own (p0::ss).length)) (h8:(p0::ss).length≤8) (hs:∀p∈p0::ss,hp' p.1=some p.2∧∃us,pt p.2=some us) (h0:pt p0.2=some u0) (hl:u0.length=ts.length)
  (ht:∀k (hk:k<ts.length),∃vs,ts[k]= .tup vs∧(p0::ss).map (λp=>(pt p.2).bind (·[k]?))=vs.map some)
noncomputable def isTup(t:Expr):Prop:=∃elts k pos,t= .Tuple elts k pos
theorem oL{A:ax}{s:af}{z TI TO:Addr}{f0:Value}{Q:Option Value→af→Prop}{E:Value→af→Prop}(hz:mq s.heap z TI TO f0)
 (h:wpAny P.M A.in1 (Builtin.«zip.__next__» ⟨[.ref z],[]⟩) (λfin s'=>∃v,fin= .done (.ret v)∧Q (some v) s') (λe s'=>(∃o a,e= .ref a∧s'.heap.get? a=some o∧o.cls= .type "StopIteration")∧Q ac s') s):
 wpAny P.M A (pyNext (.ref z)) Q E s:=by
 have hT:s.TypeIs (.ref z) "zip" :=⟨_,hz,rfl⟩
 unfold pyNext
 refine wpAny_bind (E9 (wpAny_callSpecial?_slot (name:=ag "__next__") hT F.slot_zip_next
  (eC F.slot_zip_next hT F.entry_zip_next (wpAny_mono h (λfin s' hq=>?_) λe s' hq=>?_) (F.args_zip_next_1 _))))
 ·obtain⟨v,rfl,q⟩:=hq
  exact⟨v,rfl,wpAny_pure q⟩
 ·obtain⟨⟨o,a,rfl,ho,hc⟩,q⟩:=hq
  exact wpAny_bind (wpAny_isInstance (T:= "StopIteration") (b:=true) ⟨o,ho,hc⟩ isSubtype_stop (wpAny_pure q))
theorem nD_tup{xs:Array Value}{n:Nat}:¬ng {cls:=.type "tuple",data:=.seq xs n}:=by rintro⟨es,m,e⟩;cases e
theorem srcs_real{stk:Addr→Prop}{hp:Hp}{s:af}(ok:HeapOk P stk hp s):∀ss:List (Addr×O),(∀p∈ss,hp p.1=some p.2∧∃us,pt p.2=some us)→
 ∃zs:List ZS,zs.map ZS.a=ss.map (·.1)∧zs.map (λy=>some y.vs)=ss.map (λp=>pt p.2)∧(∀y∈zs,y.St 0 s.heap)∧∀y∈zs,y.R P.nm (Fz stk hp) s.heap:=by
 intro ss
 induction ss with
 |nil=>exact λz=>⟨[],rfl,rfl,λz h=>(nomatch h),λz h=>nomatch h⟩
 |cons p ss ih=>
  intro h
  refine(ih λq hq=>h q (am _ hq)).elim λzs r1_=>r1_.elim λe1 r2_=>r2_.elim λe2 r3_=>r3_.elim λe3 e4=>?_
  obtain⟨h1,us,h2⟩:=h p ai
  have r:=ok.obj _ _ h1
  obtain⟨a,o⟩:=p
  have fin:∀y:ZS,y.a=a→y.vs=us→y.St 0 s.heap→y.R P.nm (Fz stk hp) s.heap→∃zs:List ZS,zs.map ZS.a=((a,o)::ss).map (·.1)∧zs.map (λy=>some y.vs)=((a,o)::ss).map (λp=>pt p.2)∧(∀y∈zs,y.St 0 s.heap)∧∀y∈zs,y.R P.nm (Fz stk hp) s.heap:=λy q1 q2 q3 q4=>
   ⟨y::zs,by rw[ao,ao,e1,q1],by rw[ao,ao,e2,q2,h2],λw hw=>(ah.mp hw).elim (λe=>e▸q3) (e3 w),λw hw=>(ah.mp hw).elim (λe=>e▸q4) (e4 w)⟩
  cases o with
  |itl vs=>
   cases h2
   refine r.elim λl r1_=>r1_.elim λxs r2_=>r2_.elim λil r3_=>r3_.elim λfl r4_=>r4_.elim λpl rl=>?_
   exact fin (.li a l us) rfl rfl il ⟨fl,xs,pl,rl⟩
  |itr lo hi=>
   cases h2
   refine fin (.ra a lo hi) rfl rfl ?_ trivial
   show IsRangeIter _ _ (lo+0) (_ - 0) 1
   rw[Int.add_zero,Int.sub_zero]
   exact r
  |_=>cases h2
theorem its_zip{hp0 hp:Hp}{z:Addr}{ts:List V}(Z:t7 hp0 hp z ts):Its P (.ref z) ts hp hp0 isTup (λu=>True):=by
 intro A s stk x Q E hh ok r q
 simp only[VRe]at r
 subst r
 obtain⟨TI,TO,p0,ss,u0,nd,hn,off,ez,eO,h8,hs,h0,hl,ht⟩:=Z
 refine(ok.obj _ _ ez).elim λhz r1_=>r1_.elim λfT hTI=>?_
 obtain⟨xO,hTO,sO⟩:=ok.obj _ _ eO
 obtain⟨os⟩:=xO
 obtain⟨zs,e1,e2,s0,r0⟩:=srcs_real ok _ hs
 have alive:∀a∈z::TO::(p0::ss).map (·.1),hp a≠ac:=λa h=>by
  rcases ah.mp h with rfl|h
  ·rw[ez];exact nofun
  rcases ah.mp h with rfl|h
  ·rw[eO];exact nofun
  ·obtain⟨p,hp,rfl⟩:=an.mp h
   rw[(hs p hp).1];exact nofun
 rw[←e1]at nd hn off hTI alive
 have len:os.length=zs.length:=by
  have:=congrArg oJ e1
  rw[ak,ak]at this
  rw[this];exact sO
 have l8:os.length≤8:=ae (aT sO) h8
 clear ez eO sO
 rw[aL]at hTI
 cases zs with
 |nil=>cases e1
 |cons y zs=>
 have hy:y.vs.length=ts.length:=by
  have:some y.vs=some u0:=(wb e2).1.trans h0
  rw[jc this];exact hl
 have mz:z∈z::TO::(y::zs).map ZS.a:=ai
 have mT:TO∈z::TO::(y::zs).map ZS.a:=am _ ai
 have mw:∀w∈y::zs,w.a∈z::TO::(y::zs).map ZS.a:=λw hw=>am _ (am _ (an.mpr ⟨w,hw,rfl⟩))
 have n1:=(aC.mp nd).1
 have nTz:TO≠z:=λe=>n1 (e▸ai)
 have nw:∀w∈y::zs,w.a≠z:=λw hw e=>n1 (e▸am _ (an.mpr ⟨w,hw,rfl⟩))
 refine CG hz (q z (λa=>a∈z::TO::(y::zs).map ZS.a) (λa=>a∈z::TO::(y::zs).map ZS.a) (λF h=>F TI∧lD h TI ((y::zs).map λw:ZS=>dq w.a)∧∀w∈y::zs,w.R P.nm F h)
  (λk h=>mq h z TI TO .none∧(∃os,lD h TO os∧os.length=(y::zs).length)∧∀w∈y::zs,w.St k h) s.heap ⟨λa h=>.inr ⟨alive a h,h⟩,hn,λa h=>(off a h).symm⟩ (λu u e=>e) ?_ ⟨hz,⟨os,hTO,len⟩,s0⟩ ⟨fT,hTI,r0⟩)
 clear hn off alive fT hTI hz s0 r0 hTO ok q hh h0 hl
 rw[len]at l8
 clear len os
 refine⟨λA t k s hp stk Q E hk hG hh st ok r u hJ q=>?_,λA s hp stk Q E hh st ok r u hJ q=>?_,λk h h' st ky=>?_,λA k s Q E st q=>CG st.1 q,λk h st b hb=>?_,λF F' h h' ky r=>?_,mz⟩
 ·obtain⟨elts,ke,pos,rfl⟩:=hG
  refine st.elim λhz r1_=>r1_.elim λe2_ st=>e2_.elim λos r3_=>r3_.elim λhTO lo=>?_
  refine r.elim λfT r1_=>r1_.elim λhTI rr=>?_
  refine(ht k hk).elim λvs r1_=>r1_.elim λev e=>?_
  have e':=congrArg (fO λo:Option (List V)=>o.bind (·[k]?)) e2
  rw[aL,aL]at e'
  have lv:(y::zs).length=vs.length:=by
   have:=congrArg oJ (e'.trans e)
   rwa[ak,ak]at this
  refine oL hz (wpAny_mono (u6 (F:=Fz stk hp) nd (λc hc f=>f.2 (hJ c hc)) nofun hz hTI hTO lo (lo▸l8) (λw hw=>⟨st w hw,rr w hw⟩) (e'.trans e)
   (Q:=λy s1=>wpAny P.M A (letOwnedTupleGo (.Tuple elts ke pos) (.ref z) y) (λu s2=>Q y s2) E s1) λh' tk xs T rs hz' hTO' st' hT' hf kk=>?_) (λfin s1 hq=>by obtain⟨v,e1,q1⟩:=hq;exact⟨v,e1,_,rfl,q1⟩) λe s1 z=>z)
  refine wpAny_letOwnedTupleGo_zip hz' λh2 hz2 sb=>q _ h2 tk ?_ ⟨hz2,⟨xs,(sb.2 _ nTz).trans hTO',rs.length.trans lv.symm⟩,λw hw=>ZS.fr (st' w hw) λo g=>(sb.2 _ (nw w hw)).trans g⟩ λc o hc g=>(sb.2 _ λe=>hc (by rw[e];exact mz)).trans (kk c o hc g)
  rw[ev]
  simp only[VRe]
  exact⟨T,⟨xs⟩,rfl,fz_of_new ok hf,⟨_,(sb.2 _ λe=>by rw[e]at hf;exact nomatch hf.symm.trans hz).trans hT'⟩,rs.keep (oh (λf=>f.2 (hJ z mz)) sb)⟩
 ·obtain⟨hz,⟨os,hTO,lo⟩,st⟩:=st
  refine r.elim λfT r1_=>r1_.elim λhTI rr=>?_
  refine oL hz (yU (F:=Fz stk hp) (z1:=y) hh (aI (nw y ai)) (λf=>f.2 (hJ z mz)) hz hTI rfl (st y ai) (rr y ai) hy.symm λh' e kk hz' hi' he=>⟨?_,rfl,q h' s.toks (λc o hc g=>kk c o (λe=>hc (by rw[e];exact mz)) (λe=>hc (by rw[e];exact mw y ai)) g) λc hc=>?_⟩)
  ·refine he.elim λo r1_=>r1_.elim λg hc=>?_;exact⟨o,e,rfl,g,hc⟩
  ·by_cases c1:c=z
   ·subst c1;exact hz'
   by_cases c2:c=y.a
   ·subst c2;exact hi'
   rcases ah.mp hc with rfl|hc
   ·exact absurd rfl c1
   rcases ah.mp hc with rfl|hc
   ·exact⟨_,kk _ _ c1 c2 hTO⟩
   ·obtain⟨w,hw,rfl⟩:=an.mp hc
    refine(ZS.live (st w hw)).elim λo r1_=>r1_.elim λg u=>?_
    exact⟨o,kk _ _ c1 c2 g⟩
 ·refine st.elim λhz r1_=>r1_.elim λe2_ st=>e2_.elim λos r3_=>r3_.elim λhTO lo=>?_
  exact⟨ky z mz _ hz,⟨os,ky TO mT _ hTO,lo⟩,λw hw=>ZS.fr (st w hw) (ky w.a (mw w hw))⟩
 ·obtain⟨hz,⟨os,hTO,lo⟩,st⟩:=st
  rcases ah.mp hb with rfl|hb
  ·exact⟨_,hz,nD_fields rfl⟩
  rcases ah.mp hb with rfl|hb
  ·exact⟨_,hTO,nD_tup⟩
  ·obtain⟨w,hw,rfl⟩:=an.mp hb
   refine(ZS.live (st w hw)).elim λo r1_=>r1_.elim λe r2_=>r2_.elim λn u=>?_
   exact⟨o,e,n⟩
 ·refine r.elim λfT r1_=>r1_.elim λhTI rr=>?_
  exact⟨(ky _ _ fT hTI).1,(ky _ _ fT hTI).2,λw hw=>ZS.rk ky (rr w hw)⟩
end Mine
namespace Mine
variable{P:cH}{Fl:f9}{d:Nat}{sc:Scope}
theorem za{own stk:Addr→Prop}{hp hp':Hp}{s:af}(ok:HeapOk P stk hp s){h':Heap}{tk:Nat}(k:∀b o,s.heap.get? b=some o→h'.get? b=some o)(hn:∀a,hp' a=hp a∨(s.heap.get? a=ac∧∃o,hp' a=some o∧OR P.nm P.prog P.w (Fz stk hp') h' a o)):
 HeapOk P stk hp' {s with heap:=h',toks:=tk}∧Ext own stk hp s hp' {s with heap:=h',toks:=tk}∧bB (Fz stk hp) (Fz stk hp') s.heap h':=by
 have ky:bB (Fz stk hp) (Fz stk hp') s.heap h':=by
  intro b ob i1_ g;refine i1_.elim λe n=>?_
  refine⟨⟨?_,n⟩,k b ob g⟩
  rcases hn b with q|⟨q,_⟩
  ·exact q.trans e
  ·exact nomatch q.symm.trans g
 have same:∀a,hp' a≠ac→hp a≠ac∨s.heap.get? a=ac:=λa h=>(hn a).elim (λq=>.inl (q▸h)) λq=>.inr q.1
 refine⟨⟨λa o e=>?_,λa e z=>?_,λb o e=>k b o (ok.base b o e),λa e=>?_,ok.stkn,λa z=>(by obtain⟨o,e⟩:=ok.stkl a z;exact⟨o,k a o e⟩),ok.gens⟩,.exact (λb o y y e=>k b o e) (λb o e=>⟨o,k b o e⟩) (λb o y e d=>⟨o,k b o e,d⟩) (λb e n=>?_) rfl rfl,ky⟩
 ·rcases hn a with q|⟨_,o',q,r⟩
  ·exact(ok.obj a o (q▸e)).keep ky λo g=>k a o g
  ·rw[q]at e;cases e;exact r
 ·rcases same a e with q|q
  ·exact ok.apart a q z
  ·obtain⟨o,g⟩:=ok.stkl a z;rw[q]at g;cases g
 ·rcases same a e with q|q
  ·exact ok.new a q
  ·cases g:P.H₀.get? a with
   |none=>rfl
   |some o=>have:=ok.base a o g;rw[q]at this;cases this
 ·rcases same b n with q|q
  ·exact absurd e q
  ·exact q
noncomputable def t5:DC:=λvs Q X hp=>∃us ws,vs=[.lst us,.lst ws]∧us.length≤ws.length∧∀z hp',t7 hp hp' z (zip2 us ws)→Q (.ref z) hp'
theorem t9{s:af}{a:Addr}(h:s.heap.objs.size≤a):s.heap.get? a=ac:=by
 cases q:s.heap.get? a with
 |none=>rfl
 |some o=>exact absurd (a8 q) (et.mpr h)
theorem zi{α:Type}:∀ss:List (Addr×α),(ss.map (·.1)).Nodup→∀p∈ss,ss.lookup p.1=some p.2:=by
 intro ss
 induction ss with
 |nil=>exact λz p h=>nomatch h
 |cons q ss ih=>
  intro nd p h
  rw[ao,aC]at nd
  obtain⟨a,b⟩:=q
  rcases ah.mp h with rfl|h
  ·exact List.lookup_cons_self
  ·have hne:p.1≠a:=λe=>nd.1 (an.mpr ⟨p,h,e⟩)
   rw[dE,beq_false_of_ne hne]
   exact ih nd.2 p h
theorem xG{α:Type}{a:Addr}:∀ss:List (Addr×α),a∉ss.map (·.1)→ss.lookup a=ac:=by
 intro ss
 induction ss with
 |nil=>exact λz=>rfl
 |cons q ss ih=>
  intro h
  rw[ao,ah,not_or]at h
  obtain⟨b,c⟩:=q
  rw[dE,beq_false_of_ne h.1]
  exact ih h.2
theorem AZ{stk:Addr→Prop}{hp:Hp}{s:af}(ok:HeapOk P stk hp s){h':Heap}{z TI TO:Addr}{p0:Addr×O}{ss:List (Addr×O)}{u0 ts:List V}{os:List Value}{Q:V→Hp→Prop}(hk:∀b o,s.heap.get? b=some o→h'.get? b=some o)
 (new:∀a∈TI::z::TO::(p0::ss).map (·.1),s.heap.get? a=ac)(nd:(TI::z::TO::(p0::ss).map (·.1)).Nodup)(hz:mq h' z TI TO .none)(hTI:lD h' TI (((p0::ss).map (·.1)).map .ref))(hTO:lD h' TO os)(hos:os.length=(p0::ss).length)(h8:(p0::ss).length≤8)
 (hs:∀p∈p0::ss,(∃us,pt p.2=some us)∧∀F,bB (Fz stk hp) F s.heap h'→OR P.nm P.prog P.w F h' p.1 p.2)(h0:pt p0.2=some u0)(hl:u0.length=ts.length)
 (ht:∀k (hk:k<ts.length),∃vs,ts[k]= .tup vs∧(p0::ss).map (λp=>(pt p.2).bind (·[k]?))=vs.map some)(q:∀hp',t7 hp hp' z ts→Q (.ref z) hp'):
 PostT P no1 stk hp s (PV P stk Q) (.ref z) {s with heap:=h'}:=by
 rw[aC,ah,not_or]at nd
 obtain⟨⟨nT,nT2⟩,nd⟩:=nd
 have nd1:=nd
 rw[aC,ah,not_or,aC]at nd
 obtain⟨⟨nzT,nz⟩,nTO,nd⟩:=nd
 generalize hl:p0::ss=ps at*
 obtain⟨hp5,e5⟩:∃hp5:Hp,hp5=λa=>if a=z then some (.zip TI TO (ps.map (·.1)))else if a=TO then some (.own ps.length)else(ps.lookup a).or (hp a):=⟨_,rfl⟩
 have ez:hp5 z=some (.zip TI TO (ps.map (·.1))):=by rw[e5];exact if_pos rfl
 have eO:hp5 TO=some (.own ps.length):=by rw[e5];exact(if_neg (aI nzT)).trans (if_pos rfl)
 have ep:∀p∈ps,hp5 p.1=some p.2:=λp hp=>by
  have hm:p.1∈ps.map (·.1):=an.mpr ⟨p,hp,rfl⟩
  rw[e5]
  dsimp only
  have h1:p.1≠z:=λe=>nz (e▸hm)
  have h2:p.1≠TO:=λe=>nTO (e▸hm)
  rw[if_neg h1,if_neg h2,zi ps nd p hp];rfl
 have off:∀a,a∉z::TO::ps.map (·.1)→hp5 a=hp a:=λa h=>by
  rw[ah,ah,not_or,not_or]at h
  rw[e5]
  dsimp only
  rw[if_neg h.1,if_neg h.2.1,xG ps h.2.2];rfl
 clear e5
 have hn:∀a∈z::TO::ps.map (·.1),hp a=ac:=λa h=>(fz_of_new ok (new a (am _ h))).1
 have ky:bB (Fz stk hp) (Fz stk hp5) s.heap h':=by
  intro x o i1_ g;refine i1_.elim λe n=>?_
  exact⟨⟨(off x λh=>nomatch (new x (am _ h)).symm.trans g).trans e,n⟩,hk x o g⟩
 have nTI:=new TI ai
 obtain⟨ok5,ex5,_⟩:=za (own:=no1) (tk:=s.toks) (hp':=hp5) ok hk λx=>by
  by_cases h:x∈z::TO::ps.map (·.1)
  ·refine .inr ⟨new x (am _ h),?_⟩
   rcases ah.mp h with rfl|h
   ·exact⟨_,ez,hz,⟨(off _ λh=>(ah.mp h).elim nT nT2).trans (fz_of_new ok nTI).1,(fz_of_new ok nTI).2⟩,hTI⟩
   rcases ah.mp h with rfl|h
   ·exact⟨_,eO,_,hTO,hos⟩
   ·obtain⟨p,hp,rfl⟩:=an.mp h
    exact⟨_,ep p hp,(hs p hp).2 _ ky⟩
  ·exact .inl (off x h)
 subst hl
 exact⟨hp5,ex5,ok5,_,q hp5 ⟨TI,TO,p0,ss,u0,nd1,hn,off,ez,eO,h8,λp hp=>⟨ep p hp,(hs p hp).1⟩,h0,‹_›,ht⟩,rj⟩
theorem itl_or{stk:Addr→Prop}{hp:Hp}{s:af}{h':Heap}{i l:Addr}{xs:Array Value}{us:List V}(il:h'.IsListIter i l 0)(f:Fz stk hp l)(p:s.heap.PlainList l xs)(r:VRs P.nm (Fz stk hp) s.heap us xs.toList):(∃vs,pt (.itl us)=some vs)∧∀F,bB (Fz stk hp) F s.heap h'→OR P.nm P.prog P.w F h' i (.itl us):=
 ⟨⟨us,rfl⟩,λz ky=>⟨l,xs,il,(eN ky f p).1,(eN ky f p).2,r.keep ky⟩⟩
theorem A7(m:Nat){l:List Nat}(h:l.Nodup):(l.map (m+·)).Nodup:=qn _ (λz z n e=>n (Nat.add_left_cancel e)) h
theorem A8{m a:Nat}{l:List Nat}(h:a∈l.map (m+·)):m≤a:=by
 obtain⟨k,_,rfl⟩:=an.mp h
 exact ba m k
theorem OkC.zip2:OkC P Fl d (.type "zip") t5:=by
 rintro A s Q X hp stk vs xs rm fs ok r ⟨us,ws,hv,hl,q⟩
 subst hv
 obtain⟨_,_,rfl,⟨a,as,rfl,fa,pa,ra⟩,_,_,rfl,⟨b,bs,rfl,fb,pb,rb⟩,rfl⟩:=r
 refine call_zip_2 pa.isList pb.isList λh' hz hTI hTO hi hj z hk=>?_
 have new:∀a,s.heap.objs.size≤a→s.heap.get? a=ac:=λz=>t9
 generalize s.heap.objs.size=m at*
 refine AZ ok (p0:=(m,.itl us)) (ss:=[(m+1,.itl ws)]) (u0:=us) hk (λa h=>new a (A8 (l:=[2,4,3,0,1]) h)) (A7 m (l:=[2,4,3,0,1]) (by decide)) hz hTI hTO rfl (bi rfl) (λp h=>?_) rfl (rF hl) (λk h=>yV hl h) (q (m+4))
 rcases ah.mp h with rfl|h
 ·exact itl_or hi fa pa ra
 ·cases bS.mp h
  exact itl_or hj fb pb rb
noncomputable def zQ(K:List V→Hp→Prop)(v:V)(hp1:Hp):Prop:=∃z hp0 ts,v= .ref z∧t7 hp0 hp1 z ts∧K ts hp0
noncomputable def tg(fr:List Nat)(src:DE)(t:DA)(f:DT)(inner:CD):DE:=λQ X loc hp=>src (zQ λts hp0=>mj .none hp0 t f inner (λacc hp'=>Q (.lst acc) hp') ts [] (keepL fr loc) hp0) X loc hp
noncomputable def z9(e:DE)(t:DA)(b:DS):DS:=λQ X loc hp=>e (zQ λts hp0=>de .none hp0 t b Q ts loc hp0) (λk hp'=>X k loc hp') loc hp
theorem Sim.compZ(hd:0<d){elt:Expr}{rest:List cb}{scope:Scope}{pos:Pos}{t iter:Expr}{ifs:List Expr}{idt ids fr:List Nat}{De:DE}{Dt:DA}{Df:DT}{inner:CD}(hG:isTup t)(hn1:rest[0]?=ac∨∃t' i' f',rest[0]?=some ⟨t',i',f',0⟩)
 (F:bf P scope sc fr (idt++ids))
 (he:bz P Fl d sc iter De)(ht:SimG P Fl d (i2 scope sc) t idt Dt)(htg:Tgt idt Dt)(hf:eg P Fl d (i2 scope sc) ifs Df)(hi:SimI P Fl d (i2 scope sc) elt (⟨t,iter,ifs,0⟩::rest) scope pos 1 ids inner)(hdis:∀i∈ids,i∉idt)(hfs:∀env x,foldedSetIterable iter env x=pure x):
 bz P Fl d sc (.ListComp elt (⟨t,iter,ifs,0⟩::rest) scope pos) (tg fr De Dt Df inner):=
 Sim.compG hd hG hn1 F he ht htg hf hi hdis hfs (Qe:=λQ loc v hp1=>zQ (λts hp0=>mj .none hp0 Dt Df inner (λacc hp'=>Q (.lst acc) hp') ts [] (keepL fr loc) hp0) v hp1) λQ loc v hp1 h=>by obtain⟨z,hp0,ts,rfl,Z,lp⟩:=h;exact⟨ts,hp0,.none,its_zip Z,lp⟩
theorem SimS.forZ{t e:Expr}{body:List Stmt}{pos:Pos}{D:DE}{Dt:DA}{it:List Nat}{Db:DS}(hG:isTup t)(hd:0<d)(h:bz P Fl d sc e D)(ht:SimG P Fl d sc t it Dt)(hb:SimSs P Fl d sc body Db)
 (hfs:∀env x,foldedSetIterable e env x=pure x)(htm:∀v Q X loc hp,Dt v Q X loc hp→Dt v (λloc' hp'=>hp'=hp∧Q loc' hp') X loc hp):SimS P Fl d sc (.For t e body [] pos) (z9 D Dt Db):=by
 intro A env s Q X loc hp stk rm hs ev ok hD
 exact SimS.forG hG hd h ht hb hfs htm rm hs ev ok (λv hp1 h=>by obtain⟨z,hp0,ts,rfl,Z,lp⟩:=h;exact⟨ts,hp0,.none,its_zip Z,lp⟩) hD
end Mine
namespace Mine
noncomputable def kN{α:Type}(lt:Nat→Nat→Bool):AB α→α
 | .ret a=>a
 | .ask i j k=>kN lt (k (lt i j))
noncomputable def yI{α:Type}(n:Nat)(lt:Nat→Nat→Bool):AB α→Bool
 | .ret _=>true
 | .ask i j k=>decide (i<n)&&decide (j<n)&&yI n lt (k (lt i j))
variable{P:cH}{Fl:f9}{d:Nat}{sc:Scope}
theorem ui{α:Type}{n:Nat}{lt:Nat→Nat→Bool}{cmp:Nat→Nat→(Bool→af→Prop)→af→Prop}{G:α→af→Prop}{s:af}(hc:∀i j C,i<n→j<n→C (lt i j) s→cmp i j C s):∀t:AB α,yI n lt t=true→G (kN lt t) s→t.kasWp cmp G s
 | .ret a,_,h=>h
 | .ask i j k,hi,h=>by
   have hi':(decide (i<n)&&decide (j<n)&&yI n lt (k (lt i j)))=true:=hi
   rw[b6,b6,decide_eq_true_eq,decide_eq_true_eq]at hi'
   exact hc i j _ hi'.1.1 hi'.1.2 (ui hc (k (lt i j)) hi'.2 h)
theorem Cb{lt:Nat→Nat→Bool}:kN lt (dM 0)= #[]:=by kernel_rfl
theorem D9{lt:Nat→Nat→Bool}:kN lt (dM 1)= #[0]:=by kernel_rfl
theorem pL{prog:Program}{w:c8}{A:ax}{E:Value→af→Prop}{s:af}{a:Addr}{vs:List Value}{n:Nat}{κ:yQ}{lt:Nat→Nat→Bool}{R:PySem.Fin→af→Prop}(ho:s.heap.get? a=some (seqObj "list" vs.toArray n))(h64:vs.length<64)
 (hk:2≤vs.length→∀(s':af)(Q:yQ→af→Prop)(E:Value→af→Prop),(∀b o,b≠a→s.heap.get? b=some o→s'.heap.get? b=some o)→Q κ s'→wpAny (model prog w) A (keyKind' vs.toArray) Q E s')
 (hc:∀(s':af) i j (C:Bool→af→Prop)(E:Value→af→Prop),(∀b o,b≠a→s.heap.get? b=some o→s'.heap.get? b=some o)→i<vs.length→j<vs.length→C (lt i j) s'→wpAny (model prog w) A (keyLt' κ (vs.getD i aM) (vs.getD j aM)) C E s')
 (hin:yI vs.length lt (dM vs.length)=true)(h:R (.done (.ret .none)) {s with heap:=sortedHeap s.heap a vs ((kN lt (dM vs.length)).toList.map λi=>vs.getD i aM).toArray}):
 wpAny (model prog w) A (Builtin.«list.sort» ⟨[.ref a],[]⟩) R E s:=by
 have ha:a<s.heap.objs.size:=a8 ho
 obtain⟨e1,ho1⟩:∃e1,(s.heap.update a (cQ λz=>(#[]:Array Value))).get? a=some (seqObj "list" #[] e1):=⟨_,get?_update_seq ho λz=> #[]⟩
 have ho6:(((s.heap.update a (cQ λz=>(#[]:Array Value))).push (seqObj "tuple" vs.toArray 0)).push (seqObj "list" #[] 0)).get? a=some (seqObj "list" #[] e1):=aj _ (aj _ ho1)
 have old:∀b o,b≠a→s.heap.get? b=some o→(((s.heap.update a (cQ λz=>(#[]:Array Value))).push (seqObj "tuple" vs.toArray 0)).push (seqObj "list" #[] 0)).get? b=some o:=λb o nb g=>
  aj _ (aj _ ((vZ _ _ _ _ nb).trans g))
 have hsz:vs.toArray.size=vs.length:=rfl
 rw[list_sort_plain]
 refine wpAny_bind (listItems_at ho rfl ?_)
 refine wpAny_bind (u4 ho rfl ?_ (by rw[hsz,eK];omega) (aD _))
 refine wpAny_bind (yT ho1 rfl ?_)
 refine wpAny_bind (El ?_ (by show vs.length≤_;rw[eK];omega))
 refine wpAny_bind (u2 ?_ (aD _))
 refine wpAny_holding ?_
 show wpAny (model prog w) A _ R E {s with heap:=((s.heap.update a (cQ λz=>(#[]:Array Value))).push (seqObj "tuple" vs.toArray 0)).push (seqObj "list" #[] 0)}
 dsimp only
 by_cases hn2:vs.toArray.size<2
 ·rw[if_pos hn2,if_pos hn2]
  refine wpAny_bind (wpAny_pure ?_)
  rw[StateT.run_pure]
  refine wpAny_bind (wpAny_pure ?_)
  dsimp only
  have hout:(arrOf (pf general' (vs.toArray.zip vs.toArray) #[] 7 none)).map (·.2)=((kN lt (dM vs.length)).toList.map λi=>vs.getD i aM).toArray:=by
   have hz:(vs.toArray.zip vs.toArray).map (·.2)=vs.toArray:=by
    apply ff.mp
    rw[yy,Array.toList_zip]
    exact List.map_snd_zip (bx _)
   refine hz.trans ?_
   match vs,hn2 with
   | [],_=>rw[show kN lt (dM ([]:List Value).length)= #[]from Cb];rfl
   | [_],_=>rw[show kN lt (dM ([_]:List Value).length)= #[0]from D9];rfl
   |_::_::_,h=>exact absurd h (gQ (bZ 2 _))
  refine wpAny_bind (yT ho6 rfl ?_)
  refine wpAny_bind (u4 ho6 rfl ?_ (aD _) ?_)
  ·rw[hout]
   simp only[bne_self_eq_false,cg,if_false]
   exact wpAny_pure h
  ·refine ae (aT ?_) (show vs.length≤sizeLine+1 by rw[eK];omega)
   show(((vs.toArray.zip vs.toArray)).map (·.2)).size=_
   rw[pG,Array.size_zip];exact Nat.min_self _
 have h2:2≤vs.length:=cz hn2
 rw[if_neg hn2,if_neg hn2]
 refine wpAny_bind (hk h2 _ _ _ old ?_)
 have tree:(dM vs.length).kasWp (kas_cmp prog w A κ (pairsOf vs)) (λp s'=>p=kN lt (dM vs.length)∧s'={s with heap:=((s.heap.update a (cQ λz=>(#[]:Array Value))).push (seqObj "tuple" vs.toArray 0)).push (seqObj "list" #[] 0)}) {s with heap:=((s.heap.update a (cQ λz=>(#[]:Array Value))).push (seqObj "tuple" vs.toArray 0)).push (seqObj "list" #[] 0)}:=by
  rw[←kas_ask_eq]
  exact ui (λi j C hi hj q=>hc _ i j C _ old hi hj q) _ hin ⟨rfl,rfl⟩
 have run:=kas_runs (E:=E) (it:=pairsOf vs) (κ:=κ) (Q:=λz st' s'=>∃p:Array Nat,p.size=vs.length∧arrOf st'=p.map (D1 (pairsOf vs))∧failedOf st'=none∧p=kN lt (dM vs.length)∧s'={s with heap:=((s.heap.update a (cQ λz=>(#[]:Array Value))).push (seqObj "tuple" vs.toArray 0)).push (seqObj "list" #[] 0)}) h2 h64 (λp' st' s' a1 a2 a3 a4=>⟨p',a1,a2,a3,a4⟩) tree
 have est:pf κ (vs.toArray.zip vs.toArray) #[] 7 none=kas_st κ (pairsOf vs) (BN (aV vs.length)):=by
  have e:=kas_range (pairsOf vs)
  rw[pairsOf_size]at e
  show pf κ (vs.toArray.zip vs.toArray) #[] 7 none=pf κ ((BN (aV vs.length)).map (D1 (pairsOf vs))) #[] 7 none
  rw[e];rfl
 rw[est]
 refine wpAny_bind (wpAny_mono run ?_ λz z e=>e)
 rintro⟨⟨⟩,st'⟩ s' ⟨p,hps,har,hf,rfl,rfl⟩
 dsimp only
 have hout:(arrOf st').map (·.2)=((kN lt (dM vs.length)).toList.map λi=>vs.getD i aM).toArray:=by
  apply ff.mp
  rw[har,Array.map_map,yy]
  exact bo λi z=>by show(D1 (pairsOf vs) i).2=_;rw[kas_item_eq]
 refine wpAny_bind (yT ho6 rfl ?_)
 refine wpAny_bind (u4 ho6 rfl ?_ (aD _) ?_)
 ·rw[hf,hout]
  simp only[bne_self_eq_false,cg,if_false]
  exact wpAny_pure h
 ·refine ae (aT ?_) (show vs.length≤sizeLine+1 by rw[eK];omega)
  show((arrOf st').map (·.2)).size=_
  rw[har,pG,pG,hps]
theorem tz{prog:Program}{w:c8}{A:ax}{E:Value→af→Prop}{s:af}{l:Addr}{vs:List Value}{κ:yQ}{lt:Nat→Nat→Bool}{Q:Value→af→Prop}(hl:s.heap.IsList l vs.toArray)(h64:vs.length<64)
 (hk:2≤vs.length→∀(A:ax)(s':af)(Q:yQ→af→Prop)(E:Value→af→Prop),(∀b o,s.heap.get? b=some o→s'.heap.get? b=some o)→Q κ s'→wpAny (model prog w) A (keyKind' vs.toArray) Q E s')
 (hc:∀(A':ax),A'.units≤A.units+3→∀(s':af) i j (C:Bool→af→Prop)(E:Value→af→Prop),(∀b o,s.heap.get? b=some o→s'.heap.get? b=some o)→i<vs.length→j<vs.length→C (lt i j) s'→wpAny (model prog w) A' (keyLt' κ (vs.getD i aM) (vs.getD j aM)) C E s')
 (hin:yI vs.length lt (dM vs.length)=true)(h:Q (.ref (s.heap.objs.size+1)) {s with heap:=sortedAll s.heap vs ((kN lt (dM vs.length)).toList.map λi=>vs.getD i aM).toArray}):
 wpAny (model prog w) A (call (.builtin "sorted") [.ref l]) Q E s:=by
 refine qp F5 FP FQ (FT _) ?_
 unfold Builtin.«sorted»
 refine wpAny_bind (m:=checkCount "sorted" 1 1 _) (wpAny_pure ?_)
 refine wpAny_bind (collect_list hl ?_ (by rw[eK];omega))
 refine wpAny_bind (u2 ?_ (by rw[eK];omega))
 have hsz:((s.heap.push (seqObj "list" #[] 0)).update s.heap.objs.size (cQ (·++vs.toArray))).objs.size=s.heap.objs.size+1:=by
  rw[yG,size_push']
 have hoL:(((s.heap.push (seqObj "list" #[] 0)).update s.heap.objs.size (cQ (·++vs.toArray))).push (seqObj "list" vs.toArray 0)).get? (s.heap.objs.size+1)=some (seqObj "list" vs.toArray 0):=by
  rw[←hsz];exact aq _ rfl
 have keep:∀b o,s.heap.get? b=some o→(((s.heap.push (seqObj "list" #[] 0)).update s.heap.objs.size (cQ (·++vs.toArray))).push (seqObj "list" vs.toArray 0)).get? b=some o:=λb o q=>
  aj _ ((vZ _ _ _ _ (gy (a8 q))).trans (aj _ q))
 have ne:∀b o,s.heap.get? b=some o→b≠s.heap.objs.size+1:=λb o q=>gy (gA (a8 q))
 show wpAny _ _ _ _ _ {s with heap:=((s.heap.push (seqObj "list" #[] 0)).update s.heap.objs.size (cQ (·++vs.toArray))).push (seqObj "list" vs.toArray 0)}
 rw[hsz]
 refine wpAny_bind (wpAny_holding (eC Eo ⟨_,hoL,rfl⟩ C2 (pL hoL h64 (λh2 s' Q E kp q=>hk h2 _ s' Q E (λb o g=>kp b o (ne b o g) (keep b o g)) q) (λs' i j C E kp hi hj q=>hc _ (by simp only[Around.in1_units];omega) s' i j C E (λb o g=>kp b o (ne b o g) (keep b o g)) hi hj q) hin ⟨_,rfl,?_⟩) (Ep _)))
 exact wpAny_pure ⟨_,rfl,h⟩
end Mine
namespace Mine
variable{P:cH}{Fl:f9}{d:Nat}{sc:Scope}
noncomputable def eh(c:Nat):List Nat→List (List Nat)
 | []=>[[]]
 |x::xs=>if x=c then []::eh c xs else match eh c xs with
  | []=>[[x]]
  |y::ys=>(x::y)::ys
theorem jB(c:Nat):∀(ps:List (List Nat))(p:List Nat),c∉p→(∀q∈ps,c∉q)→eh c (p++(ps.map (c::·)).flatten)=p::ps
 | [],[],_,_=>rfl
 |q::ps,[],_,h=>by
  have ih:=jB c ps q (h q (ai)) λr hr=>h r (by simp[hr])
  show eh c (c::(q++(ps.map (c::·)).flatten))=_
  unfold eh
  rw[if_pos rfl,ih]
 |ps,x::p,hp,h=>by
  simp only[ah,not_or]at hp
  have ih:=jB c ps p hp.2 h
  show eh c (x::(p++(ps.map (c::·)).flatten))=_
  unfold eh
  rw[if_neg (aI hp.1),ih]
theorem pH(c:Nat):∀(ps:List Str)(p:Str),(FU ⟨#[c]⟩ (p::ps)).cps.toList=p.cps.toList++(ps.map λq=>c::q.cps.toList).flatten:=by
 intro xs_
 induction xs_ with
 |nil=>
  intro p
  show p.cps.toList=_;simp
 |cons q ps IH=>
  intro p
  have ih:=IH q
  show(p++⟨#[c]⟩++FU ⟨#[c]⟩ (q::ps)).cps.toList=_
  simp only[Str.cps_append,ie,ih,ao,List.flatten_cons,bC]
  rfl
theorem xz(l:List Nat)(c:Nat):(sw ⟨l.toArray⟩ ⟨#[c]⟩).map (λx=>x.cps.toList)=eh c l:=by
 have hj:=StrLaws.join_split ⟨l.toArray⟩ ⟨#[c]⟩
 have hf:=StrLaws.split_free ⟨l.toArray⟩ c
 cases hs:sw ⟨l.toArray⟩ ⟨#[c]⟩with
 |nil=>have:=split_pos ⟨l.toArray⟩ ⟨#[c]⟩;rw[hs]at this;exact absurd this (by trivial)
 |cons p ps=>
  rw[hs]at hj hf
  have e:=congrArg (λx:Str=>x.cps.toList) hj
  simp only[pH]at e
  have e2:l=p.cps.toList++((ps.map λq=>q.cps.toList).map (c::·)).flatten:=by rw[aL];exact e.symm
  rw[e2,jB c _ _ (hf p (ai)) λq hq=>(by obtain⟨r,hr,rfl⟩:=an.mp hq;exact hf r (by simp[hr]))]
  rfl
noncomputable def w7:DC:=λvs Q X hp=>∃l c,vs=[.str l,.str [c]]∧l.length≤lim∧Q (.lst ((eh c l).map .str)) hp
theorem u8{F:Addr→Prop}{h:Heap}:∀(ps:List (Str×Tok)),VRs P.nm F h ((ps.map λp=>p.1.cps.toList).map .str) (strValues ps):=by
 intro xs_
 induction xs_ with
 |nil=>
  simp only[gj,VRse];rfl
 |cons e_ ps ih=>
  obtain⟨x,t⟩:=e_
  simp only[ao,VRse]
  exact⟨.str x t,strValues ps,rfl,wf,ih⟩
theorem OkC.split:OkC P Fl d (.builtin "str.split") w7:=by
 rintro A s Q X hp stk vs xs rm fs ok r ⟨l,c,hv,hl,q⟩
 subst hv
 obtain⟨_,_,rfl,⟨t,rfl⟩,_,_,rfl,⟨u,rfl⟩,rfl⟩:=r
 have hle:=split_le ⟨l.toArray⟩ ⟨#[c]⟩
 have hxl:(⟨l.toArray⟩:Str).length=l.length:=rfl
 have key:∀(ps:List (Str×Tok))(tk n:Nat),ps.map (·.1)=sw ⟨l.toArray⟩ ⟨#[c]⟩→PostT P no1 stk hp s (PV P stk Q) (.ref s.heap.objs.size) {s with heap:=s.heap.push {cls:=.type "list",data:=.seq (strValues ps).toArray n},toks:=tk}:=λps tk n e=>by
  refine jh (vs:=(eh c l).map .str) ok ?_ q
  rw[←xz,←e,aL]
  have:=u8 (P:=P) (F:=Fz stk hp) (h:=s.heap) ps
  simpa only[aL,tT]using this
 have hlim:=dZ
 cases h1:(decide ((⟨l.toArray⟩:Str).length<(⟨#[c]⟩:Str).length)||decide (qq (⟨l.toArray⟩:Str)<qq (⟨#[c]⟩:Str)))
 ·cases hf:(nX ⟨l.toArray⟩ ⟨#[c]⟩ 0 (⟨l.toArray⟩:Str).length ((⟨l.toArray⟩:Str).length+1)).isEmpty
  ·refine fH F.slot_str_split (tt _ _ _) F.entry_str_split (F.args_str_split_2 _ _) (meets_str_split_sep ⟨l.toArray⟩ ⟨#[c]⟩ t u h1 rfl hf (by rw[hxl];exact ae hl hlim) ?_) ?_
   ·have e:sw ⟨l.toArray⟩ ⟨#[c]⟩=EY ⟨l.toArray⟩ (nX ⟨l.toArray⟩ ⟨#[c]⟩ 0 (⟨l.toArray⟩:Str).length ((⟨l.toArray⟩:Str).length+1)) (⟨#[c]⟩:Str).length:=(if_neg (ne_true_of_eq_false h1)).trans (if_neg (ne_true_of_eq_false hf))
    rw[←e]
    refine ae hle ?_
    rw[hxl]
    have:lim+2≤sizeLine:=by decide
    lia
   ·rw[strsFrom_eq]
    exact key (numbered s.toks _) _ _ ((numbered_texts _ _).trans ((if_neg (ne_true_of_eq_false h1)).trans (if_neg (ne_true_of_eq_false hf))).symm)
  ·exact fH F.slot_str_split (tt _ _ _) F.entry_str_split (F.args_str_split_2 _ _) (meets_str_split_not_found ⟨l.toArray⟩ ⟨#[c]⟩ t u h1 rfl hf)
    (key [(_,t)] _ _ ((if_neg (ne_true_of_eq_false h1)).trans (if_pos hf)).symm)
 ·exact fH F.slot_str_split (tt _ _ _) F.entry_str_split (F.args_str_split_2 _ _) (meets_str_split_cannot_occur ⟨l.toArray⟩ ⟨#[c]⟩ t u h1)
   (key [(_,t)] _ _ (if_pos h1).symm)
noncomputable def mY:DC:=λvs Q X hp=>∃v us ns,vs=[v]∧bL hp v=some us∧jv us=some ns∧ns≠ []∧∀M,M∈ns→(∀a∈ns,a≤M)→Q (.int M) hp
theorem OkC.maxL(hd:0<d):OkC P Fl d (.builtin "max") mY:=by
 rintro A s Q X hp stk vs xs rm fs ok r ⟨v,us,ns,hv,hu,hns,hne,q⟩
 subst hv
 obtain⟨x,ys,rfl,r,rfl⟩:=r
 obtain⟨a,zs,rfl,p,rz⟩:=aU ok r hu
 have hI:=jj rz hns
 refine hI.allInts.items.elim λxs hxs=>?_
 have e0:zs=intItems xs:=by simpa using hxs
 subst e0
 have hns2:ns=xs.toList.map (·.1):=by
  have h1:=Fc (xs:=xs)
  rw[←h1];exact hI.numsOf.symm
 have hsz:xs.size=ns.length:=by rw[hns2];simp
 have hpos:0<xs.size:=by rw[hsz];exact vV.mpr hne
 have hat:∀j,numAt xs j=ns.getD j 0:=λj=>by rw[numAt_eq,hns2]
 refine max_intList (rm.hd hd) p.isList hpos λv h' tk hv k=>?_
 refine(intItems_at hv).elim λt e1_=>?_;subst e1_
 obtain⟨b1,b2⟩:=argBest_gt (numAt xs) (xs.size - 1)
 refine iP ok k (q _ ?_ λa ha=>?_) vInt
 ·have hlt:argBest (λi j=>decide (numAt xs i>numAt xs j)) (xs.size - 1)<ns.length:=by lia
  rw[hat,bF,au hlt]
  exact List.getElem_mem hlt
 ·obtain⟨j,hj,rfl⟩:=uP.mp ha
  have:=b2 j (by lia)
  rw[hat j,bF,au hj]at this
  exact this
end Mine
namespace Mine
variable{P:cH}{Fl:f9}{d:Nat}{sc:Scope}
theorem pe:entryFor table "dict_itemiterator.__iter__" =some Builtin.«dict_keyiterator.__iter__»:=
 entryFor_alias (id':= "dict_keyiterator.__iter__") (by kernel_rfl) rfl (by decide+kernel) (by kernel_rfl)
theorem nA{A:ax}{E:Value→af→Prop}{s:af}{it a:Addr}{i n ep:Nat}{x y:Value}{Q:Value→af→Prop}(hit:IsItemIter s.heap it a i n ep x y)(h:Q (.ref it) s):wpAny P.M A (pyIter (.ref it)) Q E s:=by
 have hT:s.TypeIs (.ref it) "dict_itemiterator" :=⟨_,hit,rfl⟩
 refine wpAny_pyIter_slot hT F.slot_dict_itemiterator_iter (eC F.slot_dict_itemiterator_iter hT pe ?_ (F.args_dict_itemiterator_iter_1 _))
 show wpAny _ _ (ret (.ref it)) _ _ s
 exact wpAny_pure ⟨_,rfl, "dict_itemiterator",_,hT,F.slot_dict_itemiterator_next.lookup,h⟩
noncomputable def pS(es:List (Int×V)):List V:=es.map λe=>.tup [.int e.1,e.2]
theorem vv{a:Addr}{es:List (Int×V)}{ep:Nat}{hp:Hp}(h:hp a=some (.dict es ep)):Its P (.vals true a) (pS es) hp hp isTup (λhp'=>hp' a=some (.dict es ep)):=by
 intro A s stk x Q E hh ok r k
 obtain⟨v,rfl,f,g⟩:=r
 refine(ok.obj a _ h).elim λkvs r1_=>r1_.elim λhd er=>?_
 have hlen:=jw er
 have hn:=cX s.heap
 have nof:∀{hp:Hp}{stk:Addr→Prop}{I:Addr},stk I→¬Fz stk hp I:=λz f=>f.2 z
 refine wpAny_pyIter_items (v:=v) ⟨_,g,rfl,rfl⟩ hd (k s.heap.objs.size (one s.heap.objs.size) (λw=>False) (λw w=>True) (λi h=>∃x y,IsItemIter h s.heap.objs.size a i es.length ep x y) _ (Wen.one ok hn) (λb o e=>aj _ e) ?_ ⟨.none,.none,by rw[←hlen];exact aq _ rfl⟩ trivial)
 generalize s.heap.objs.size=I at*
 clear hh ok f g h hd er hlen hn k
 refine⟨λA t i s hp stk Q E hi hG hh st ok w hv hI q=>?_,λA s hp stk Q E hh st ok w hv hI q=>?_,λi h h' st kk=>?_,λA i s Q E st q=>(by obtain⟨x,y,st⟩:=st;exact nA st q),λi h st b hb=>?_,λw w w w w w=>trivial,rfl⟩
 ·obtain⟨elts,ke,pos,rfl⟩:=hG
  obtain⟨x,y,st⟩:=st
  refine(ok.obj a _ hv).elim λkvs r1_=>r1_.elim λhd er=>?_
  have hlen:=jw er
  have hi2:i<es.length:=by simpa[pS]using hi
  obtain⟨u,eu,ru⟩:=qD er (i:=i) (k:=es[i].1) (v:=es[i].2) (au hi2)
  have sI:=hI I rfl
  have hn:=cX s.heap
  refine wpAny_pyNext_items_item (by rw[hlen];exact st) hd eu λkey h' hk ho ht hz kk=>⟨_,rfl,?_⟩
  rw[hlen]at ho
  obtain⟨t,rfl⟩:=v6 hk
  have nI:s.heap.objs.size≠I:=λe=>by rw[e]at hn;exact nomatch hn.symm.trans st
  refine wpAny_letOwnedTupleGo_items ho λh2 he sb=>q _ h2 s.toks ?_ ⟨_,_,he⟩ λb o hb e=>(sb.2 b hb).trans (kk b o hb e)
  have ky:bB (Fz stk hp) (Fz stk hp) s.heap h2:=λb o f g=>by
   have nb:b≠I:=λe=>f.2 (e▸sI)
   exact⟨f,(sb.2 b nb).trans (kk b o nb g)⟩
  rw[show(pS es)[i]=V.tup [.int es[i].1,es[i].2]from jR ..]
  exact⟨_,_,rfl,fz_of_new ok hn,⟨_,(sb.2 _ nI).trans ht⟩,_,_,rfl,⟨_,rfl⟩,_,_,rfl,ru.keep ky,rfl⟩
 ·obtain⟨x,y,st⟩:=st
  refine(ok.obj a _ hv).elim λkvs r1_=>r1_.elim λhd er=>?_
  have hlen:=jw er
  rw[show(pS es).length=es.length from ak ..,←hlen]at st
  exact wpAny_pyNext_items_end hh st hd (bH (bx _)) λh' sb=>⟨rfl,q h' s.toks (λb o n e=>sb b o n e) λw z=>z.elim⟩
 ·obtain⟨x,y,st⟩:=st
  exact⟨x,y,kk I rfl _ st⟩
 ·obtain⟨x,y,st⟩:=st
  cases hb
  exact⟨_,st,nD_fields rfl⟩
noncomputable def w8:DC:=λvs Q X hp=>∃a es ep,vs=[.ref a]∧hp a=some (.dict es ep)∧Q (.vals true a) hp
theorem OkC.items(hz:(P.H₀.get? sysModules).isSome=true):OkC P Fl d (.builtin "dict.items") w8:=by
 rintro A s Q X hp stk vs xs rm fs ok r ⟨a,es,ep,hv,ha,q⟩
 subst hv
 obtain⟨x,ys,rfl,rx,rfl⟩:=r
 cases rx
 refine(ok.obj _ _ ha).elim λkvs r1_=>r1_.elim λhd er=>?_
 replace hd:=hd.dictOf
 refine pz PySem.F.slot_dict_items hd.typeIs PySem.F.entry_dict_items (PySem.F.args_dict_items_1 _) (meets_dict_items (intKind P.prog P.w) a (ku ok ha hz)) ⟨⟨_,hd⟩,?_⟩
 refine iP (tk:=s.toks) ok (λb o e=>aj _ e) q ?_
 exact⟨_,rfl,gW ok,aq _ rfl⟩
noncomputable def iQ(K:List V→Addr→Hp→Prop)(v:V)(hp:Hp):Prop:=∃a es ep,v= .vals true a∧hp a=some (.dict es ep)∧K (pS es) a hp
noncomputable def Aa(e:DE)(t:DA)(b:DS):DS:=λQ X loc hp=>e (iQ λts a hp1=>de (.vals true a) hp1 t b Q ts loc hp1) (λk hp'=>X k loc hp') loc hp
theorem SimS.forI{t e:Expr}{body:List Stmt}{pos:Pos}{D:DE}{Dt:DA}{it:List Nat}{Db:DS}(hG:isTup t)(hd:0<d)(h:bz P Fl d sc e D)(ht:SimG P Fl d sc t it Dt)(hb:SimSs P Fl d sc body Db)
 (hfs:∀env x,foldedSetIterable e env x=pure x)(htm:∀v Q X loc hp,Dt v Q X loc hp→Dt v (λloc' hp'=>hp'=hp∧Q loc' hp') X loc hp):SimS P Fl d sc (.For t e body [] pos) (Aa D Dt Db):=by
 intro A env s Q X loc hp stk rm hs ev ok hD
 refine SimS.forG hG hd h ht hb hfs htm rm hs ev ok (λv hp1 h=>?_) hD
 obtain⟨a,es,ep,rfl,ha,lp⟩:=h
 refine⟨_,hp1,.vals true a,λA s stk x Q E hh ok r k=>vv ha A s stk x Q E hh ok r λI J Jo R St h' n kp W s0 r0=>k I J Jo R St h' n kp ⟨λA t i s hp stk Q E hi hG hh st ok r hv=>W.item A t i s hp stk Q E hi hG hh st ok r (q8 hv ha),λA s hp stk Q E hh st ok r hv=>W.done A s hp stk Q E hh st ok r (q8 hv ha),W.frame,W.self,W.live,W.rk,W.own⟩ s0 r0,lp⟩
end Mine
namespace Mine
variable{P:cH}{Fl:f9}{d:Nat}{sc:Scope}
noncomputable def kW{α:Type}(n:Nat)(lt:Nat→Nat→Bool)(t:AB α)(Q:α→Prop):Prop:=yI n lt t=true∧Q (kN lt t)
theorem iq{α:Type}{n:Nat}{lt:Nat→Nat→Bool}{a:α}{Q:α→Prop}(h:Q a):kW n lt (.ret a) Q:=⟨rfl,h⟩
theorem om{α:Type}{n:Nat}{lt:Nat→Nat→Bool}{i j:Nat}{k:Bool→AB α}{Q:α→Prop}(hi:i<n)(hj:j<n)(h:∀b,kW n lt (k b) Q):kW n lt (.ask i j k) Q:=by
 refine⟨?_,(h _).2⟩
 show(decide (i<n)&&decide (j<n)&&yI n lt (k (lt i j)))=true
 rw[decide_eq_true hi,decide_eq_true hj,(h _).1];rfl
theorem kA{α β:Type}{n:Nat}{lt:Nat→Nat→Bool}{f:α→AB β}{Q:β→Prop}:∀{t:AB α},kW n lt t (λa=>kW n lt (f a) Q)→kW n lt (t.bind f) Q
 | .ret a,h=>h.2
 | .ask i j k,h=>by
   obtain⟨h1,h2⟩:=h
   have h1':(decide (i<n)&&decide (j<n)&&yI n lt (k (lt i j)))=true:=h1
   rw[b6]at h1'
   have ih:=kA (t:=k (lt i j)) ⟨h1'.2,h2⟩
   refine⟨?_,ih.2⟩
   show(decide (i<n)&&decide (j<n)&&yI n lt ((k (lt i j)).bind f))=true
   rw[h1'.1,ih.1];rfl
theorem j5{α:Type}{n:Nat}{lt:Nat→Nat→Bool}{c:Prop}[Decidable c]{t u:AB α}{Q:α→Prop}(h1:kW n lt t Q)(h2:kW n lt u Q):kW n lt (if c then t else u) Q:=by
 by_cases h:c
 ·rw[if_pos h];exact h1
 ·rw[if_neg h];exact h2
noncomputable def Pm(n:Nat)(p:Array Nat):Prop:=p.Perm (aV n).toArray
theorem Pm.at{n:Nat}{p:Array Nat}(h:Pm n p)(hn:0<n)(i:Nat):p.getD i 0<n:=by
 unfold Array.getD
 split
 ·rename_i hi
  exact cu.mp (yC.mp (h.mem_iff.mp (Array.getElem_mem hi)))
 ·exact hn
theorem Pm.rev{n:Nat}{p:Array Nat}(h:Pm n p)(i j:Nat):Pm n (kas_rev p i j):=(mirror_perm ..).trans h
theorem lh{n:Nat}{lt:Nat→Nat→Bool}{p:Array Nat}(h:Pm n p)(hn:0<n):∀f m,kW n lt (kas_asc p f m) λz=>True
 |0,m=>iq trivial
 |f+1,m=>om (h.at hn _) (h.at hn _) λb=>j5 (iq trivial) (lh h hn f (m+1))
theorem iS{n:Nat}{lt:Nat→Nat→Bool}(hn:0<n):∀f {p:Array Nat} m q,Pm n p→kW n lt (kas_desc f p m q) λr=>Pm n r.1
 |0,p,m,q,h=>iq h
 |f+1,p,m,q,h=>om (h.at hn _) (h.at hn _) λb=>j5 (j5 (iS hn f _ _ (h.rev _ _)) (iS hn f _ _ h)) (om (h.at hn _) (h.at hn _) λc=>j5 (iq h) (iS hn f _ _ h))
theorem kz{α:Type}{n:Nat}{lt:Nat→Nat→Bool}{t:AB α}{Q R:α→Prop}(h:kW n lt t Q)(k:∀a,Q a→R a):kW n lt t R:=⟨h.1,k _ h.2⟩
theorem lY{n:Nat}{lt:Nat→Nat→Bool}{p:Array Nat}(h:Pm n p)(hn:0<n)(a b:Nat):kW n lt (kas_tail3 a b p) λr=>Pm n r.2:=
 kA (kz (lh (h.rev _ _) hn _ _) λm z=>iq (h.rev _ _))
theorem jT{n:Nat}{lt:Nat→Nat→Bool}{p:Array Nat}(h:Pm n p)(hn:0<n)(a b:Nat):kW n lt (kas_descPart a b p) λr=>Pm n r.2:=
 kA (kz (iS hn _ _ _ h) λr hr=>j5 (lY (hr.rev _ _) hn _ _) (lY hr hn _ _))
theorem qR{n:Nat}{lt:Nat→Nat→Bool}{p:Array Nat}(h:Pm n p)(hn:0<n)(a:Nat):kW n lt (kas_count a p) λr=>Pm n r.2:=
 kA (kz (lh h hn _ _) λm z=>j5 (iq h) (j5 (om (h.at hn _) (h.at hn _) λc=>j5 (iq h) (jT (h.rev _ _) hn _ _)) (jT h hn _ _)))
theorem jI{n:Nat}{lt:Nat→Nat→Bool}{p:Array Nat}(h:Pm n p)(hn:0<n)(k:Nat):∀f l r,kW n lt (kas_place p k f l r) λz=>True
 |0,l,r=>iq trivial
 |f+1,l,r=>j5 (iq trivial) (om (h.at hn _) (h.at hn _) λc=>j5 (jI h hn k f _ _) (jI h hn k f _ _))
theorem oO{n:Nat}{lt:Nat→Nat→Bool}(hn:0<n):∀f {p:Array Nat} k,Pm n p→kW n lt (kas_bin f p k) (Pm n)
 |0,p,k,h=>iq h
 |f+1,p,k,h=>kA (kz (jI h hn k _ _ _) λl z=>oO hn f _ ((bubble_perm ..).trans h))
theorem sk{lt:Nat→Nat→Bool}(n:Nat):kW n lt (dM n) λp=>∀i∈p.toList,i<n:=by
 cases n with
 |zero=>exact⟨by kernel_rfl,by rw[Cb];exact λz h=>nomatch h⟩
 |succ n=>
  refine kz (kA (kz (qR (.refl _) (kf n) _) λr hr=>j5 (oO (kf n) _ _ hr) (iq hr))) λp h i hi=>?_
  exact cu.mp (yC.mp (h.mem_iff.mp (Array.mem_def.mpr hi)))
noncomputable def yA:List Int→List Int→Bool
 | [],ys=> !ys.isEmpty
 |_::_,[]=>false
 |x::xs,y::ys=>if x=y then yA xs ys else decide (x<y)
theorem ints_at:∀{vs:List Value}{ns:List Int},fh vs ns→∀i:Nat,(vs[i]?=ac∧ns[i]?=ac)∨∃x t,vs[i]?=some (.int x t)∧ns[i]?=some x
 |_,_,.nil,i=>.inl ⟨rfl,rfl⟩
 |_,_,.cons x t h,0=>.inr ⟨x,t,rfl,rfl⟩
 |_,_,.cons x t h,i+1=>ints_at h i
section
open PySem.SeqAt PySem.MeetsSeq PySem.MeetsSeq2 PySem.MeetsSeq3 PySem.AutoSeq1
theorem y8{prog:Program}{w:c8}{A:ax}{E:Value→af→Prop}{s:af}{a b:Int}{t u:Tok}{Q:Value→af→Prop}(h:Q (.bool (decide (a<b))) s):wpAny (model prog w) A (richCompare .Lt (.int a t) (.int b u)) Q E s:=wpAny_lt_int h
theorem zh{as bs:List Int}(l b:Addr)(items items2:Array Value)(n n2:Nat)(h1:fh items.toList as)(h2:fh items2.toList bs)(k:Nat):
 ∀i:Nat,as.length - i=k→i≤as.length→Meets (Builtin.«list.__eq__.loop» ⟨[.ref l,.ref b,rawInt i,rawInt 0],[]⟩)
  (λA R s=>s.heap.get? l=some {cls:=.type "list",data:=.seq items n}∧s.heap.get? b=some {cls:=.type "list",data:=.seq items2 n2}∧
   R (.ok (.ret (.bool (yA (as.drop i) (bs.drop i))))) s):=by
 have z1:items.size=as.length:=by rw[←h1.length];rfl
 have z2:items2.size=bs.length:=by rw[←h2.length];rfl
 induction k with
 |zero=>
  intro i hk hi prog w A R s h
  obtain⟨hp,g,d,tk,os⟩:=s;obtain⟨hl,hb,h⟩:=h
  wp_walk using wpAny_loadPart' hl,wpAny_loadPart' hb
  have ei:i=as.length:=kK hi (Nat.le_of_sub_eq_zero hk)
  have hi1:items[((i:Nat):Int).toNat]?=none:=by simp;omega
  rw[hi1]
  have e:yA (as.drop i) (bs.drop i)=decide (items.size<items2.size):=by
   rw[ei,jS,z1,z2]
   show(!(bs.drop as.length).isEmpty)=_
   cases hd:bs.drop as.length with
   |nil=>exact(decide_eq_false (gQ (List.drop_eq_nil_iff.mp hd))).symm
   |cons y ys=>exact(decide_eq_true (fu λc=>by rw[j3 c]at hd;cases hd)).symm
  rw[e]at h
  wp_walk using wpAny_loadPart' hl,wpAny_loadPart' hb
  exact h
 |succ k ih=>
  intro i hk hi prog w A R s h
  obtain⟨hp,g,d,tk,os⟩:=s;obtain⟨hl,hb,h⟩:=h
  wp_walk using wpAny_loadPart' hl,wpAny_loadPart' hb
  have hlt:i<as.length:=by omega
  rcases ints_at h1 i with⟨_,q⟩|⟨x,t,q1,q2⟩
  ·rw[au hlt]at q;cases q
  have hi1:items[((i:Nat):Int).toNat]?=some (.int x t):=by rw[a9,←bg];exact q1
  have d1:as.drop i=x::as.drop (i+1):=by rw[fE hlt];congr 1;rw[au hlt]at q2;exact jc q2
  have hc:((i:Int)+1)=((i+1:Nat):Int):=by push_cast;rfl
  rcases ints_at h2 i with⟨p1,p2⟩|⟨y,u,p1,p2⟩
  ·have hi2:items2[((i:Nat):Int).toNat]?=none:=by rw[a9,←bg];exact p1
   have hle:bs.length≤i:=jd.mp p2
   rw[hi1,hi2]
   have e:yA (as.drop i) (bs.drop i)=decide (items.size<items2.size):=by
    rw[d1,j3 hle,z1,z2]
    exact(decide_eq_false (by omega)).symm
   rw[e]at h
   wp_walk using wpAny_loadPart' hl,wpAny_loadPart' hb
   exact h
  ·have hi2:items2[((i:Nat):Int).toNat]?=some (.int y u):=by rw[a9,←bg];exact p1
   have hlt2:i<bs.length:=(dL.mp p2).1
   have d2:bs.drop i=y::bs.drop (i+1):=by rw[fE hlt2];congr 1;rw[au hlt2]at p2;exact jc p2
   rw[hi1,hi2]
   rw[d1,d2]at h
   refine wpAny_bind (wpAny_eqBool_int ?_)
   by_cases hxy:x=y
   ·rw[show yA (x::as.drop (i+1)) (y::bs.drop (i+1))=yA (as.drop (i+1)) (bs.drop (i+1))from if_pos hxy]at h
    rw[show(x==y)=true from beq_iff_eq.mpr hxy]
    wp_walk
    rw[hc]
    exact⟨Fb plain_eq_loop _,ly entry_eq_loop (by
     rw[sG plain_eq_loop _]
     exact ih (i+1) (by omega) hlt prog w A R _ ⟨hl,hb,h⟩)⟩
   ·rw[show yA (x::as.drop (i+1)) (y::bs.drop (i+1))=decide (x<y)from if_neg hxy]at h
    rw[show(x==y)=false from beq_eq_false_iff_ne.mpr hxy]
    wp_walk using wpAny_loadPart' hl,wpAny_loadPart' hb
    rw[hi1,hi2]
    refine wpAny_bind (y8 ?_)
    wp_walk
    exact h
theorem zm{as bs:List Int}(l b:Addr)(items items2:Array Value)(n n2:Nat)(h1:fh items.toList as)(h2:fh items2.toList bs):
 Meets (Builtin.«list.__lt__» ⟨[.ref l,.ref b],[]⟩)
  (λA R s=>s.heap.get? l=some {cls:=.type "list",data:=.seq items n}∧s.heap.get? b=some {cls:=.type "list",data:=.seq items2 n2}∧
   R (.ok (.ret (.bool (yA as bs)))) s):=by
 intro prog w A R s h
 obtain⟨hp,g,d,tk,os⟩:=s;obtain⟨hl,hb,h⟩:=h
 have f3:=Gb
 wp_walk using wpAny_loadPart' hl,wpAny_loadPart' hb
 exact⟨Fb plain_eq_loop _,ly entry_eq_loop (by
  rw[sG plain_eq_loop _]
  exact zh l b items items2 n n2 h1 h2 _ 0 rfl (aD _) prog w A R _ ⟨hl,hb,h⟩)⟩
end
theorem tE{prog:Program}{w:c8}{A:ax}{E:Value→af→Prop}{s:af}{as bs:List Int}{l b:Addr}{items items2:Array Value}{n n2:Nat}{Q:Bool→af→Prop}(hu:A.units<cLine)(hl:s.heap.get? l=some {cls:=.type "list",data:=.seq items n})(hb:s.heap.get? b=some {cls:=.type "list",data:=.seq items2 n2})
 (h1:fh items.toList as)(h2:fh items2.toList bs)(h:Q (yA as bs) s):wpAny (model prog w) A (oneLt' true (.ref l) (.ref b)) Q E s:=by
 rw[oneLt'_eq]
 simp only[if_true]
 refine wpAny_bind (wpAny_cRoomFor hu ?_)
 refine wpAny_bind (wpAny_callSpecialIfBound?_slot (T:= "list") ⟨_,hl,rfl⟩ F.slot_list_lt (fH F.slot_list_lt ⟨_,hl,rfl⟩ F.entry_list_lt (F.args_list_lt_2 _ _) (zm l b items items2 n n2 h1 h2) ⟨hl,hb,?_⟩))
 exact wpAny_truthy_bool h
noncomputable def bagV(b:List Int):V:=.lst (b.map .int)
noncomputable def lL(bs:List (List Int))(i j:Nat):Bool:=yA (bs.getD i []) (bs.getD j [])
noncomputable def sortL(bs:List (List Int)):List (List Int):=(kN (lL bs) (dM bs.length)).toList.map λi=>bs.getD i []
noncomputable def s9:DC:=λvs Q X hp=>∃v bs,vs=[v]∧bL hp v=some (bs.map bagV)∧bs.length<64∧Q (.lst ((sortL bs).map bagV)) hp
theorem m8:∀b:List Int,jv (b.map .int)=some b
 | []=>rfl
 |x::b=>by show((jP (.int x)).bind λi=>(jv (b.map .int)).map (i::·))=_;rw[m8 b];rfl
theorem Ab{F:Addr→Prop}{h:Heap}{bs:List (List Int)}{xs:List Value}(r:VRs P.nm F h (bs.map bagV) xs):∀is:List Nat,(∀i∈is,i<bs.length)→VRs P.nm F h ((is.map λi=>bs.getD i []).map bagV) (is.map λi=>xs.getD i aM)
 | [],_=>rfl
 |i::is,hi=>by
  have h1:i<bs.length:=hi i (.head _)
  obtain⟨y,ey,ry⟩:=r.get (i:=i) (v:=bagV (bs.getD i [])) (by rw[b9,bF,au h1];rfl)
  refine⟨_,_,rfl,?_,Ab r is λj hj=>hi j (.tail _ hj)⟩
  have e:xs.getD i aM=y:=by rw[bF,ey];rfl
  show VR P.nm F h (bagV (bs.getD i [])) (xs.getD i aM)
  rw[e];exact ry
theorem OkC.sortL:OkC P Fl d (.builtin "sorted") s9:=by
 rintro A s Q X hp stk vs xs rm fs ok r ⟨v,bs,hv,hu,h64,q⟩
 subst hv
 obtain⟨x,ys,rfl,r,rfl⟩:=r
 obtain⟨a,zs,rfl,p,rz⟩:=aU ok r hu
 have hl:zs.toList.length=bs.length:=by rw[rz.length,ak]
 obtain⟨hin,hlt⟩:=sk (lt:=lL bs) bs.length
 have p':s.heap.IsList a zs.toList.toArray:=by simpa using p.isList
 have real:∀i,i<bs.length→∃b items n,zs.toList[i]?=some (.ref b)∧s.heap.get? b=some {cls:=.type "list",data:=.seq items n}∧fh items.toList (bs.getD i []):=λi hi=>by
  obtain⟨y,ey,ry⟩:=rz.get (i:=i) (v:=bagV (bs.getD i [])) (by rw[b9,bF,au hi];rfl)
  obtain⟨b,items,rfl,_,⟨n,g⟩,rs⟩:=ry
  exact⟨b,items,n,ey,g,jj rs (m8 _)⟩
 refine tz (κ:=oneType') (lt:=lL bs) p' (hl▸h64) (λh2 A s' Q E kp q=>?_) (λA' hA s' i j C E kp hi hj q=>?_) (by rw[hl];exact hin) ?_
 ·refine kas_kind (T:=.type "list") h2 (λv hv=>?_) (by decide) (by decide) q
  obtain⟨i,hi,rfl⟩:=uP.mp hv
  obtain⟨b,items,n,e,g,_⟩:=real i (hl▸hi)
  rw[au hi]at e
  rw[jc e]
  exact λA Q E s k q=>FM ⟨_,k _ _ (kp _ _ g),rfl⟩ q
 ·obtain⟨b,items,n,e,g,hI⟩:=real i (hl▸hi)
  obtain⟨b',items',n',e',g',hI'⟩:=real j (hl▸hj)
  rw[bF,bF,e,e']
  exact tE (by have:=rm.units;omega) (kp _ _ g) (kp _ _ g') hI hI' q
 ·obtain⟨e,he⟩:=FO s.heap zs.toList ((kN (lL bs) (dM zs.toList.length)).toList.map λi=>zs.toList.getD i aM).toArray
  have k:∀b o,s.heap.get? b=some o→(sortedAll s.heap zs.toList ((kN (lL bs) (dM zs.toList.length)).toList.map λi=>zs.toList.getD i aM).toArray).get? b=some o:=λb o g=>Fa g
  refine iP (tk:=s.toks) ok k q ⟨_,_,rfl,fz_of_new ok (t9 (gb _)),⟨e,he⟩,?_⟩
  rw[hl]
  exact Ab (rz.keep λa o f g=>⟨f,by rw[←hl];exact k a o g⟩) _ hlt
noncomputable def tf:DC:=λvs Q X hp=>∃l c,vs=[.str l,.str [c]]∧Q (.int (l.count c:Nat)) hp
theorem count_eq(l:List Nat)(c:Nat):Fh ⟨l.toArray⟩ ⟨#[c]⟩=(l.count c:Int):=by
 rw[show Fh ⟨l.toArray⟩ ⟨#[c]⟩=cnt c l from count_is _ c]
 induction l with
 |nil=>rfl
 |cons x l ih=>
  rw[cnt_cons,ih,dP]
  by_cases e:x=c
  ·rw[if_pos e,if_pos (beq_iff_eq.mpr e)];push_cast;exact kg _ _
  ·rw[if_neg e,if_neg (λh=>e (beq_iff_eq.mp h))];exact Int.zero_add _
theorem OkC.count:OkC P Fl d (.builtin "str.count") tf:=by
 rintro A s Q X hp stk vs xs rm fs ok r ⟨l,c,hv,q⟩
 subst hv
 obtain⟨_,_,rfl,⟨t,rfl⟩,_,_,rfl,⟨u,rfl⟩,rfl⟩:=r
 refine SC.count ?_
 rw[count_eq]
 exact iP (tk:=s.toks+1) ok (λz z e=>e) q ⟨_,rfl⟩
noncomputable def uW:B2:=λx y Q hp=>∃us,bL hp x=some us∧y= .lst []∧Q (.bool us.isEmpty) hp
noncomputable def wk:B2:=λx y Q hp=>∃us,bL hp x=some us∧y= .lst []∧Q (.bool (!us.isEmpty)) hp
theorem ok_eq0:nh P Fl (compareOp .Eq) uW:=by
 rintro A s Q X hp stk v u x y rm ok rv ru ⟨us,hu,rfl,hq⟩
 obtain⟨a,xs,rfl,p,rx⟩:=aU ok rv hu
 obtain⟨b,ys,rfl,_,p2,ry⟩:=ru
 have e2:ys= #[]:=ff.mp ry
 subst e2
 have hu':A.units<cLine:=by have:=rm.units;omega
 have hl:=rx.length
 cases us with
 |nil=>
  have e1:xs= #[]:=ff.mp (jV.mp hl)
  subst e1
  exact SeqAt.eq_listAt p.isList p2.isList rfl hu' (e:=λz=>true) (λj h=>absurd h (eH _)) (here ok hq io)
 |cons w us=>
  refine SeqAt.eq_list_lengthsAt p.isList p2.isList ?_ hu' (here ok hq io)
  rw[←fB,hl];rfl
theorem ok_ne0:nh P Fl (compareOp .NotEq) wk:=by
 rintro A s Q X hp stk v u x y rm ok rv ru ⟨us,hu,rfl,hq⟩
 obtain⟨a,xs,rfl,p,rx⟩:=aU ok rv hu
 obtain⟨b,ys,rfl,_,p2,ry⟩:=ru
 have e2:ys= #[]:=ff.mp ry
 subst e2
 have hu':A.units<cLine:=by have:=rm.units;omega
 have hl:=rx.length
 cases us with
 |nil=>
  have e1:xs= #[]:=ff.mp (jV.mp hl)
  subst e1
  exact Dy p.isList p2.isList rfl hu' (e:=λz=>true) (λj h=>absurd h (eH _)) _ _ _ _ (here ok hq io)
 |cons w us=>
  refine Dx p.isList p2.isList ?_ hu' _ _ _ _ (here ok hq io)
  rw[←fB,hl];rfl
noncomputable def z8(i:Nat)(D:DS):DS:=λQ X loc hp=>∃a us,loc i=some (.ref a)∧hp a=some (.lst us)∧D Q X (upd loc i (.lst us)) (del hp a)
theorem SimSs.frz{i:Nat}{sts:List Stmt}{D:DS}(h:SimSs P Fl d sc sts D):SimSs P Fl d sc sts (z8 i D):=by
 rintro A env s Q X loc hp stk rm hs ev ok ⟨a,us,h1,h2,q⟩
 have ky:bB (Fz stk hp) (Fz stk (del hp a)) s.heap s.heap:=by
  intro b ob i1_ g;refine i1_.elim λe n=>?_
  refine⟨⟨?_,n⟩,g⟩
  by_cases z:b=a
  ·subst z;exact lT ..
  ·rw[del_ne z];exact e
 obtain⟨xs,pl,rx⟩:=ok.obj _ _ h2
 have new:∀{j:Nat}{v:V}{x:Value},upd loc i (.lst us) j=some v→(∀u,loc j=some u→P.VR stk hp s.heap u x)→P.VR stk (del hp a) s.heap v x:=λ{j v x} hj hv=>by
  by_cases c:j=i
  ·subst c
   rw[upd_same]at hj
   cases hj
   have r:x= .ref a:=hv _ h1
   exact⟨a,xs,r,⟨lT ..,ok.apart a (by rw[h2];intro z;cases z)⟩,pl,rx.keep ky⟩
  ·rw[upd_ne c]at hj
   exact(hv v hj).keep ky
 have old:∀{j:Nat}{v:V},upd loc i (.lst us) j=some v→∃u,loc j=some u:=λ{j v} hj=>by
  by_cases c:j=i
  ·exact⟨_,c▸h1⟩
  ·rw[upd_ne c]at hj;exact⟨v,hj⟩
 have ev':EnvOk P A stk (del hp a) env (upd loc i (.lst us)) s:=by
  refine⟨ev.kind,ev.glob,ev.blt,?_,λj v hj hk=>?_,ev.stkL,ev.stkC,ev.cells,ev.apart,ev.apartL,ev.frs,ev.top⟩
  ·obtain⟨m,hm,hv⟩:=ev.ns
   refine⟨m,hm,λj v hj hk=>?_⟩
   obtain⟨u,hu⟩:=old hj
   obtain⟨x,hx,r⟩:=hv j u hu hk
   exact⟨x,hx,new hj λw hw=>by rw[hu]at hw;cases hw;exact r⟩
  ·obtain⟨u,hu⟩:=old hj
   obtain⟨c,x,hc,hx,r⟩:=ev.cell j u hu hk
   exact⟨c,x,hc,hx,new hj λw hw=>by rw[hu]at hw;cases hw;exact r⟩
 refine wpAny_mono (h A env s Q X _ _ stk rm hs ev' (ok.drop a) q) (λf s' hq=>?_) (λe s' hq=>?_)
 ·obtain⟨hp',e1,r1,r2⟩:=hq
  exact⟨hp',(Ext.drop a).trans e1,r1,r2⟩
 ·obtain⟨hp',e1,r1,r2⟩:=hq
  exact⟨hp',(Ext.drop a).trans e1,r1,r2⟩
theorem si{prog:Program}{w:c8}{A:ax}{E:Value→af→Prop}{s:af}{t:Addr}{vs:List Value}{ns:List Int}{n:Nat}{Q:Value→af→Prop}(ht:s.heap.get? t=some {cls:=.type "tuple",data:=.seq vs.toArray n})(hI:fh vs ns)(h64:vs.length<64)
 (h:∀(h':Heap)(r:Addr)(e:Nat)(out:Array Value)(ns':List Int),(∀b o,s.heap.get? b=some o→h'.get? b=some o)→s.heap.get? r=ac→h'.get? r=some (seqObj "list" out e)→fh out.toList ns'→ns'.Perm ns→ns'.Pairwise (·≤·)→Q (.ref r) {s with heap:=h'}):
 wpAny (model prog w) A (call (.builtin "sorted") [.ref t]) Q E s:=by
 refine qp F5 FP FQ (FT _) ?_
 unfold Builtin.«sorted»
 refine wpAny_bind (m:=checkCount "sorted" 1 1 _) (wpAny_pure ?_)
 refine wpAny_bind (BK t (.inr rfl) ht rfl rfl (λh1 k1=>?_) (by rw[eK];show vs.length≤_;omega))
 refine wpAny_bind (u2 ?_ (by rw[eK];show vs.length≤_;omega))
 have hoL:(h1.push (seqObj "list" vs.toArray 0)).get? h1.objs.size=some (seqObj "list" vs.toArray 0):=aq _ rfl
 have keep:∀b o,s.heap.get? b=some o→(h1.push (seqObj "list" vs.toArray 0)).get? b=some o:=λb o q=>aj _ (k1 b o q)
 have new:s.heap.get? h1.objs.size=ac:=by
  cases q:s.heap.get? h1.objs.size with
  |none=>rfl
  |some o=>exact absurd (a8 (k1 _ o q)) (dC _)
 show wpAny _ _ _ _ _ {s with heap:=h1.push (seqObj "list" vs.toArray 0)}
 refine wpAny_bind (wpAny_holding (eC Eo ⟨_,hoL,rfl⟩ C2 (list_sort_tree hoL hI h64 λout ns' a1 a2 a3=>⟨_,rfl,?_⟩) (Ep _)))
 obtain⟨e,he⟩:=sortedHeap_at (h:=h1.push (seqObj "list" vs.toArray 0)) (a:=h1.objs.size) (vs:=vs) (out:=out) hoL
 refine wpAny_pure ⟨_,rfl,h _ h1.objs.size e out ns' (λb o q=>?_) new he a1 a2 a3⟩
 have hne:b≠h1.objs.size:=λz=>by rw[z,new]at q;cases q
 exact(sortedHeap_old hne (a8 (keep b o q))).trans (keep b o q)
noncomputable def s8:DC:=λvs Q X hp=>∃us ns,vs=[.tup us]∧jv us=some ns∧us.length<64∧Q (.lst ((fU ns).map .int)) hp
theorem OkC.sortT:OkC P Fl d (.builtin "sorted") s8:=by
 rintro A s Q X hp stk vs xs rm fs ok r ⟨us,ns,hv,hns,hl,q⟩
 subst hv
 obtain⟨x,ys,rfl,⟨a,zs,rfl,f,⟨n,g⟩,rz⟩,rfl⟩:=r
 have hI:=jj rz hns
 refine si (vs:=zs.toList) (n:=n) (by simpa using g) hI (by rw[rz.length];exact hl) λh' r e out ns' k new he a1 a2 a3=>?_
 have en:ns'=fU ns:=gX a2 a3
 subst en
 exact iP (tk:=s.toks) ok k q ⟨_,out,rfl,fz_of_new ok new,⟨e,he⟩,p7 a1⟩
end Mine
namespace Mine
variable{P:cH}{Fl:f9}{d:Nat}{sc:Scope}{ex:Nat→Value}
noncomputable def bG:List Stmt→Nat→Stmt
 | [],_=>.Pass ⟨0,0,0,0⟩
 |s::_,0=>s
 |_::l,n+1=>bG l n
noncomputable def tY:Stmt→List Stmt×Scope×Arguments×Pos
 | .FunctionDef _ a b _ _ _ s _ _ p=>(b,s,a,p)
 | .ClassDef _ _ _ b _ _ _ _ _ _ _=>(b,{kind:=.function,names:=[],isGenerator:=false,isCoroutine:=false,more:=[]},default,⟨0,0,0,0⟩)
 |_=>([],{kind:=.function,names:=[],isGenerator:=false,isCoroutine:=false,more:=[]},default,⟨0,0,0,0⟩)
noncomputable def cP(s:Stmt):List Stmt:=(tY s).1
noncomputable def k7(s:Stmt):Scope:=(tY s).2.1
noncomputable def An(s:Stmt):Arguments:=(tY s).2.2.1
noncomputable def D5(s:Stmt):Pos:=(tY s).2.2.2
noncomputable def EZ(sc:Scope)(x:Str):Bool:=(match sc.names.lookup x with|some .local=>true|some .cell=>true|some .free=>true|_=>false)&& !(x==("__debug__" :Str))&& !(x==("__classdict__" :Str))
noncomputable def E0(sc:Scope)(x:Str):Bool:=match sc.names.lookup x with|some .local=>true|some .cell=>true|_=>false
noncomputable def C0(sc:Scope)(x:Str):Bool:=decide (sc.names.lookup x=some .globalImplicit)&& !(x==("__debug__" :Str))
theorem Sim.v{i:Nat}{x:Str}{pos:Pos}(hx:P.nm i=x:=by exact rfl)(h:EZ sc x=true:=by kernel_rfl):bz P Fl d sc (.Name x pos) (ap i):=by
 unfold EZ at h
 rw[b6,b6,cE,cE]at h
 exact Sim.var hx h.1.1 h.1.2 h.2
theorem SimG.v(inj:∀i j,P.nm i=P.nm j→i=j){i:Nat}{x:Str}{pos:Pos}(hx:P.nm i=x:=by exact rfl)(h:E0 sc x=true:=by kernel_rfl):SimG P Fl d sc (.Name x pos) [i] (aG i):=SimG.var inj hx h
theorem SimS.asgN{i:Nat}{x:Str}{pos pos':Pos}{e:Expr}{D:DE}(inj:∀i j,P.nm i=P.nm j→i=j)(hx:P.nm i=x)(hk:E0 sc x=true)
 (h:bz P Fl d sc e D)(hs':∀env:Env,env.scope=sc→swapsWith e (some (.Name x pos')) pos.line env=pure false):SimS P Fl d sc (.Assign [.Name x pos'] e pos) (bE D (aG i)):=SimS.asgName inj hx hk h hs'
theorem Sim.g{mg mb:Str→Option Value}(tp:dG P mg mb){x:Str}{pos:Pos}{v:Value}(h:C0 sc x=true)(hv:mg x=some v):bz P Fl d sc (.Name x pos) (aJ (.fn v)):=by
 unfold C0 at h
 rw[b6,cE,decide_eq_true_eq]at h
 exact Sim.glob tp h.1 h.2 hv
theorem Sim.b{mg mb:Str→Option Value}(tp:dG P mg mb){x:Str}{pos:Pos}{v:Value}(h:C0 sc x=true)(hm:mg x=ac)(hv:mb x=some v):bz P Fl d sc (.Name x pos) (aJ (.fn v)):=by
 unfold C0 at h
 rw[b6,cE,decide_eq_true_eq]at h
 exact Sim.built tp h.1 h.2 hm hv
noncomputable def FnOk(P:cH)(a:Addr)(st:Stmt)(bd:List V→Hp→Option (List (Nat×V))):Prop:=∃fd,lU P a fd (cP st)∧fd.scope=k7 st∧BindOk P fd bd
noncomputable def xd(nm:Nat→Str)(sc:Scope)(ids:List Nat):Bool:=(ids.all λi=>(sc.names.lookup (nm i)==some .local)||(sc.names.lookup (nm i)==some .cell))&&decide (ids.map nm).Nodup
noncomputable def BdIds(bd:List V→Hp→Option (List (Nat×V)))(ids:List Nat):Prop:=∀vs hp ps,bd vs hp=some ps→ps.map (·.1)=ids
theorem BdIds.pos(ids:List Nat):BdIds (bdPos ids) ids:=by
 intro vs hp ps h
 by_cases hl:vs.length=ids.length
 ·cases (if_pos hl).symm.trans h;exact List.map_fst_zip (by lia)
 ·cases (if_neg hl).symm.trans h
theorem BdIds.star1(i r:Nat):BdIds (kE i r) [i,r]:=by
 intro vs hp ps h
 rcases vs with _|⟨v,us⟩
 ·cases h
 ·by_cases hl:us.length≤lim
  ·cases (if_pos hl).symm.trans h;rfl
  ·cases (if_neg hl).symm.trans h
theorem BdIds.star2(i j r:Nat):BdIds (kD i j r) [i,j,r]:=by
 intro vs hp ps h
 rcases vs with _|⟨v,_|⟨u,us⟩⟩
 ·cases h
 ·cases h
 ·by_cases hl:us.length≤lim
  ·cases (if_pos hl).symm.trans h;rfl
  ·cases (if_neg hl).symm.trans h
theorem OkK.fn{nm:Nat→Str}(hnm:P.nm=nm){mg mb:Str→Option Value}(tp:dG P mg mb){a:Addr}{st:Stmt}{bd:List V→Hp→Option (List (Nat×V))}{ids:List Nat}{D:DS}(F:FnOk P a st bd)(hi:BdIds bd ids)(hc:xd nm (k7 st) ids=true)
 (h:SimSs P (cj ex) d (k7 st) (cP st) D):OkK P (cj ex) (d+1) (.ref a) (ik bd D):=by
 subst hnm
 refine F.elim λfd r1_=>r1_.elim λFF r2_=>r2_.elim λhsc hb=>?_
 refine OkK.fun tp FF hb (λvs hp ps hps=>?_) (by rw[hsc];exact h)
 have hm:=hi vs hp ps hps
 unfold xd at hc
 rw[b6]at hc
 refine hc.elim λh1 h2=>?_
 refine⟨λp hp'=>?_,?_⟩
 ·have:p.1∈ids:=by rw[←hm];exact an.mpr ⟨p,hp',rfl⟩
  have:=b4.mp h1 p.1 this
  rw[hsc]
  simpa using this
 ·have e:(ps.map λp=>P.nm p.1)=ids.map P.nm:=by rw[←hm,aL];rfl
  rw[e];exact of_decide_eq_true h2
noncomputable def uG(nm:Nat→Str)(scope sc:Scope)(fr ids:List Nat):Bool:=
 (scope.kind== .function)&&decide (scope.names.map (·.1)).Nodup&&(fr.all λi=>scope.names.lookup (nm i)==some .free)&&
 (scope.names.all λp=>p.2 != .free||(sc.names.lookup p.1==some .cell||sc.names.lookup p.1==some .free))&&
 (ids.all λi=>scope.names.lookup (nm i)==some .local||scope.names.lookup (nm i)==some .cell)
theorem bf.of{nm:Nat→Str}(hnm:P.nm=nm:=by exact rfl){scope sc:Scope}{fr ids:List Nat}(h:uG nm scope sc fr ids=true:=by kernel_rfl):bf P scope sc fr ids:=by
 subst hnm
 unfold uG at h
 simp only[b6]at h
 refine h.elim λe1_ h5=>e1_.elim λe2_ h4=>e2_.elim λe3_ h3=>e3_.elim λh1 h2=>?_
 refine⟨by simpa using h1,of_decide_eq_true h2,λi hi=>by simpa using b4.mp h3 i hi,λn hn=>?_,λi hi=>by simpa using b4.mp h5 i hi⟩
 have:=b4.mp h4 _ hn
 simpa using this
theorem Sim.joined1{e:Expr}{pos:Pos}{D:DE}(h:bz P Fl d sc e D):bz P Fl d sc (.JoinedStr [e] pos) D:=λA env s Q X loc hp stk rm hs ev ok hD=>wpAny_JoinedStr_one (h A env s Q X loc hp stk rm hs ev ok hD)
noncomputable def nmOf(L:List Str)(i:Nat):Str:=match L[i]? with|some x=>x|none=>⟨(ar (i+40) 120).toArray⟩
theorem A9(L:List Str)(h:(decide L.Nodup&&L.all λx=>decide (x.cps.size<40))=true):∀i j,nmOf L i=nmOf L j→i=j:=by
 rw[b6]at h
 refine h.elim λh1 h2=>?_
 have hn:L.Nodup:=of_decide_eq_true h1
 intro i j e
 unfold nmOf at e
 have small:∀(i:Nat)(x:Str),L[i]?=some x→x.cps.size<40:=λi (x:Str) hx=>of_decide_eq_true (b4.mp h2 x (uO hx))
 cases hi:L[i]? with
 |some x=>
  cases hj:L[j]? with
  |some y=>
   rw[hi,hj]at e
   simp only at e
   subst e
   obtain⟨li,ei⟩:=dL.mp hi
   obtain⟨lj,ej⟩:=dL.mp hj
   exact(List.getElem_inj hn).mp (ei.trans ej.symm)
  |none=>
   rw[hi,hj]at e
   simp only at e
   have:=small i x hi
   rw[e]at this
   simp at this;lia
 |none=>
  cases hj:L[j]? with
  |some y=>
   rw[hi,hj]at e
   simp only at e
   have:=small j y hj
   rw[←e]at this
   simp at this;lia
  |none=>
   rw[hi,hj]at e
   simp only[Str.mk.injEq]at e
   have:=congrArg Array.size e
   simp at this;lia
theorem Sim.globInt{mg mb:Str→Option Value}(tp:dG P mg mb){x:Str}{pos:Pos}{i:Int}(hk:sc.names.lookup x=some .globalImplicit)(hd:(x==("__debug__" :Str))=false)(hv:∃t,mg x=some (.int i t)):bz P Fl d sc (.Name x pos) (aJ (.int i)):=by
 intro A env s Q X loc hp stk _ hs ev ok hq
 refine hv.elim λt hv=>?_
 refine wpAny_Name ?_ hd
 have hkind:env.kindOf x=some .globalImplicit:=by rw[←hk,←hs];rfl
 rw[kc ev.kind hkind]
 refine pA (mg:=mg) ?_ hv ⟨hp,.refl ..,ok,_,hq,vInt⟩
 rw[ev.glob];exact tp.g.keeps ok.base
noncomputable def wC:B2:=λx y Q hp=>∃xs ys,bL hp x=some xs∧bL hp y=some ys∧xs.length+ys.length≤lim∧∀l,hp l=ac→Q (.ref l) (upd hp l (.lst (xs++ys)))
theorem y9:nh P Fl (binaryOp .Add) wC:=by
 rintro A s Q X hp stk v u x y rm ok rv ru ⟨xs,ys,h1,h2,hl,hq⟩
 obtain⟨a,as,rfl,⟨n,pa⟩,ra⟩:=aU ok rv h1
 obtain⟨b,bs,rfl,⟨m,pb⟩,rb⟩:=aU ok ru h2
 refine PySem.P.add_list (n:=n) (n2:=m) pa pb ?_ ?_
 ·refine newTracked (tk:=s.toks) (o:=.lst (xs++ys)) ok rfl ?_ hq
  refine⟨as++bs,⟨_,aq _ rfl⟩,?_⟩
  rw[ie]
  exact VRs.keep (bB.upd (λb o e=>aj _ e) (cX _)) (ra.append rb)
 ·have h1:=fX ra
  have h2:=fX rb
  have:=dZ
  lia
end Mine
namespace Mine
noncomputable abbrev cN:Addr:=106
noncomputable abbrev cT:Addr:=203
noncomputable abbrev cW:Addr:=83
noncomputable def jU:DS:=
 (ay (bE (ap 1) (gB (j6 cN 0) (ap 0)))
 (ay (bE (aJ (.int 0)) (gB (j6 cN 1) (ap 0)))
 (ay (bE (pv aF) (gB (j6 cN 2) (ap 0)))
 aB)))
noncomputable def fG:DC:=ik (bdPos [0,1]) jU
noncomputable def iJ:DS:=
 (ay (yJ 3 (b7 n8 wi (bU (bn cT 2) (ap 0)) (av (ap 1) aF)) (ay (wp (aS (ta cN fG) (av (ap 1) aF)) (lE (bU (bn cT 2) (ap 0)) (ap 1)) (aG 3))
 aB) aB)
 (ay (fQ (ap 3))
 aB))
noncomputable def dA:DC:=ik (bdPos [0,1]) iJ
noncomputable def jE:DS:=
 (ay (bE (b7 (cw cT 6) dA (ap 0) (av (ap 8) aF)) (aG 9))
 (ay (jt (b7 ip fF (bU (gh cN 2) (ap 9)) (av (ap 1) aF)))
 aB))
noncomputable def sd:DS:=
 (ay (jX (cF ix (bU (bn cT 5) (ap 0)) (aJ .none))
 (ay (λz z z z=>False)
 aB)
 aB)
 (ay (bE (b7 (cw cT 6) dA (ap 0) (av (ap 1) aF)) (aG 7))
 (ay (uU (gh cN 1) (j6 cN 1) (nk (·+·)) (ap 7) (aS iK (av (ap 4) aF)))
 (ay (jr (ap 4) (aG 8)
 jE)
 aB))))
noncomputable def lV:DC:=ik (kD 0 1 4) sd
noncomputable def B0:DS:=
 (ay (bE n9 (gB (dU cT 2) (ap 0)))
 (ay (bE (aJ .none) (gB (dU cT 5) (ap 0)))
 (ay (bE (aJ (.int 0)) (gB (dU cT 11) (ap 0)))
 (ay (bE (aJ (.int 0)) (gB (dU cT 12) (ap 0)))
 (ay (jX (cF ix (ap 10) (aJ .none))
 (ay (λz z z z=>False)
 aB)
 aB)
 aB)))))
noncomputable def dz:DS:=
 (ay (AI 0
 (ay (bE (wu (bK dJ (ap 15) (AT (aJ (.int 1))))) (aG 1))
 (ay sJ
 aB))
 (ay (AJ (ap 17) (b7 ip AR (ap 14) aF))
 (ay (jt (b7 ip AR (ap 15) aF))
 aB)))
 aB)
noncomputable def d7:DS:=
 (ay (jX (cF AF (ap 1) (ap 16))
 (ay (jX (cF AF (ap 1) (ap 17))
 (ay (fQ (bK d9 (wj (ap 14) (bK dJ (ap 17) (ap 1)) (aJ .none) (aJ .none)) (i3 (av (ap 1) aF))))
 aB)
 aB)
 aB)
 (ay (jt (b7 wt AU (ap 16) (av (ap 1) aF)))
 (ay (jt (b7 ip fF (ap 15) (av (bU to (aS wz (av (bU (gh cN 2) (bK dJ (ap 13) (ap 1))) aF))) aF)))
 (ay (bE (aS iK (av (ap 14) aF)) (lE (ap 17) (ap 1)))
 (ay (jt (b7 ip fF (ap 14) (av (ap 1) aF)))
 aB)))))
 (ay (oj (kL (ap 14))
 dz
 (ay sJ
 aB))
 aB))
noncomputable def fL:DS:=
 (ay (jX (cF AF (ap 1) (ap 16))
 (ay wn
 aB)
 aB)
 (ay (oj (kL (aJ (.bool true)))
 d7
 aB)
 aB))
noncomputable def jn:DS:=
 (ay (bE (bU (bn cT 2) (ap 0)) (aG 13))
 (ay (bE (pv aF) (aG 14))
 (ay (bE (pv aF) (aG 15))
 (ay (bE (aS Ak aF) (aG 16))
 (ay (bE n9 (aG 17))
 (ay (jr (ap 13) (aG 1)
 fL)
 (ay (fQ (aJ .none))
 aB)))))))
noncomputable def eV:DC:=ik (bdPos [0]) jn
noncomputable def ma:DS:=
 (ay (jX (cF ix (bU (bn cT 5) (ap 0)) (aJ .none))
 (ay (λz z z z=>False)
 aB)
 aB)
 (ay (bE (ti [] (b7 n8 uD (bU (bn cT 2) (ap 0)) aF) (aG 18) (cF nZ (bU (gh cN 1) (ap 18)) (aJ (.int 0))) (eM (bU (gh cN 0) (ap 18)))) (gB (dU cT 5) (ap 0)))
 (ay (bE (b7 (cw cT 19) eV (ap 0) aF) (aG 20))
 (ay (jX (kL (ap 20))
 (ay (sQ 1 (av (aJ (.str [110,111,100,101,115,32,97,114,101,32,105,110,32,97,32,99,121,99,108,101])) (av (ap 20) aF)))
 aB)
 aB)
 aB))))
noncomputable def g9:DC:=ik (bdPos [0]) ma
noncomputable def eU:DS:=
 (ay (bE (aJ (.int (-1))) (gB (j6 cN 1) (bK dJ (ap 13) (ap 1))))
 aB)
noncomputable def ko:DS:=
 (ay (jX (cF AE (bU (bn cT 5) (ap 0)) (aJ .none))
 (ay (λz z z z=>False)
 aB)
 aB)
 (ay (bE (aS rC (av (bU (bn cT 5) (ap 0)) aF)) (aG 3))
 (ay (bE (bU (bn cT 2) (ap 0)) (aG 13))
 (ay (jr (ap 3) (aG 1)
 eU)
 (ay (jt (b7 ip w9 (bU (bn cT 5) (ap 0)) aF))
 (ay (uU (bn cT 11) (dU cT 11) (nk (·+·)) (ap 0) (aS iK (av (ap 3) aF)))
 (ay (fQ (ap 3))
 aB)))))))
noncomputable def fZ:DC:=ik (bdPos [0]) ko
noncomputable def kn:DS:=
 (ay (jX (cF AE (bU (bn cT 5) (ap 0)) (aJ .none))
 (ay (λz z z z=>False)
 aB)
 aB)
 (ay (fQ (AS (bK (k4 λa b=>decide (a<b)) (bU (bn cT 12) (ap 0)) (bU (bn cT 11) (ap 0))) (aS Al (av (bU (bn cT 5) (ap 0)) aF))))
 aB))
noncomputable def dS:DC:=ik (bdPos [0]) kn
noncomputable def iW:DS:=
 (ay (bE (bK dJ (ap 13) (ap 23)) (aG 24))
 (ay (uU (gh cN 1) (j6 cN 1) (nk (·- ·)) (ap 24) (aJ (.int 1)))
 (ay (jX (cF nZ (bU (gh cN 1) (ap 24)) (aJ (.int 0)))
 (ay (jt (b7 ip fF (bU (bn cT 5) (ap 0)) (av (ap 23) aF)))
 aB)
 aB)
 aB)))
noncomputable def iV:DS:=
 (ay (yJ 7 (b7 n8 wi (ap 13) (av (ap 1) aF)) (ay (λz z z z=>False)
 aB) aB)
 (ay (bE (bU (gh cN 1) (ap 7)) (aG 22))
 (ay (jX (cF tX (ap 22) (aJ (.int (-1))))
 (ay (jX (cF (k4 λa b=>decide (b≤a)) (ap 22) (aJ (.int 0)))
 (ay (λz z z z=>False)
 aB)
 (ay (jX (cF nZ (ap 22) (aJ (.int (-2))))
 (ay (λz z z z=>False)
 aB)
 (ay (λz z z z=>False)
 aB))
 aB))
 aB)
 aB)
 (ay (bE (aJ (.int (-2))) (gB (j6 cN 1) (ap 7)))
 (ay (jr (bU (gh cN 2) (ap 7)) (aG 23)
 iW)
 (ay (uU (bn cT 12) (dU cT 12) (nk (·+·)) (ap 0) (aJ (.int 1)))
 aB))))))
noncomputable def qk:DS:=
 (ay (jX (cF AE (bU (bn cT 5) (ap 0)) (aJ .none))
 (ay (λz z z z=>False)
 aB)
 aB)
 (ay (bE (bU (bn cT 2) (ap 0)) (aG 13))
 (ay (jr (ap 21) (aG 1)
 iV)
 aB)))
noncomputable def kH:DC:=ik (kE 0 21) qk
noncomputable def dQ:DS:=
 (ay (jX (cF nZ (ap 33) (ap 27))
 (ay (bE (bK d9 (ap 31) (aJ (.int 1))) (aG 31))
 (ay (bE (bK d9 (ap 30) (aJ (.int 1))) (aG 30))
 aB))
 (ay (jX (cF nZ (ap 33) (ap 28))
 (ay (bE (bK d9 (ap 31) (aJ (.int 1))) (aG 31))
 (ay (bE (bK d9 (ap 32) (aJ (.int 1))) (aG 32))
 (ay (jX (cF (k4 λa b=>decide (b≤a)) (ap 30) (aS iK (av (ap 29) aF)))
 (ay (bE (bK wC (ap 29) (bK j7 (i3 (av (aJ (.int 0)) aF)) (bK d9 (bK (nk (·- ·)) (ap 30) (aS iK (av (ap 29) aF))) (aJ (.int 1))))) (aG 29))
 aB)
 aB)
 (ay (bE (bK d9 (bK dJ (ap 29) (ap 30)) (aJ (.int 1))) (lE (ap 29) (ap 30)))
 (ay (bE (aJ (.int 0)) (aG 30))
 aB)))))
 (ay sJ
 aB))
 aB))
 aB)
noncomputable def iY:DS:=
 (ay (bE (ap 25) (gB (dU cW 26) (ap 0)))
 (ay (wm 27 28 (rq (av (aJ (.str [32])) (av (aJ (.str [9])) aF))))
 (ay (bE (pv aF) (aG 29))
 (ay (wo (aJ (.int 0)) (aG 30) (aG 31) (aG 32))
 (ay (jr (bU (bn cW 26) (ap 0)) (aG 33)
 dQ)
 (ay (bE (ap 31) (gB (dU cW 31) (ap 0)))
 (ay (bE (ap 32) (gB (dU cW 32) (ap 0)))
 (ay (bE (rq (av (aS rC (av (ap 29) aF)) (av (ap 30) aF))) (gB (dU cW 34) (ap 0)))
 (ay (bE (bK (k4 λa b=>decide (a≤b)) (aS iK (av (ap 29) aF)) (aJ (.int 1))) (gB (dU cW 35) (ap 0)))
 aB)))))))))
noncomputable def bw:DC:=ik (bdPos [0,25]) iY
noncomputable def dB:DS:=
 (ay (bE (bU (bn cW 34) (ap 0)) (ij ([29,36].map aG)))
 (ay (fQ (aS pU (av (bK (nk (·- ·)) (aS iK (av (ap 29) aF)) (aJ (.int 1))) (av (ap 36) aF))))
 aB))
noncomputable def aO:DC:=ik (bdPos [0]) dB
noncomputable def c9:DS:=
 (ay (bE (bK d9 (ap 38) (bK j7 (bK uX (ap 18) (ap 37)) (bK dJ (ap 29) (ap 18)))) (aG 38))
 aB)
noncomputable def e7:DS:=
 (ay (bE (bU (bn cW 34) (ap 0)) (ij ([29,36].map aG)))
 (ay (bE (aJ (.int 0)) (aG 38))
 (ay (jr (aS lM (av (ap 37) (av (aS iK (av (ap 29) aF)) aF))) (aG 18)
 c9)
 (ay (fQ (bK d9 (ap 36) (bK j7 (ap 37) (bK d9 (ap 38) (bU (bn cW 32) (ap 0))))))
 aB))))
noncomputable def aY:DC:=ik (bdPos [0,37]) e7
noncomputable def cZ:DS:=
 (ay (jX (cF (k4 λa b=>decide (b≤a)) (b7 (cw cW 42) aY (ap 0) (av (ap 41) aF)) (b7 (cw cW 42) aY (ap 39) (av (ap 41) aF)))
 (ay (fQ (aJ (.bool false)))
 aB)
 aB)
 aB)
noncomputable def iX:DS:=
 (ay (jX (cF (k4 λa b=>decide (b≤a)) (bU (bn cW 31) (ap 0)) (bU (bn cW 31) (ap 39)))
 (ay (fQ (aJ (.bool false)))
 aB)
 aB)
 (ay (jX (ni (kL (bU (bn cW 35) (ap 0))) (ni (kL (bU (bn cW 35) (ap 39))) (λQ z z hp=>Q true hp)))
 (ay (fQ (bK (k4 λa b=>decide (a≤b)) (bU (bn cW 32) (ap 0)) (bU (bn cW 32) (ap 39))))
 aB)
 aB)
 (ay (bE (bK d9 (aS pU (av (b7 (cw cW 40) aO (ap 0) aF) (av (b7 (cw cW 40) aO (ap 39) aF) aF))) (aJ (.int 1))) (aG 31))
 (ay (jr (aS lM (av (aJ (.int 2)) (av (bK d9 (ap 31) (aJ (.int 1))) aF))) (aG 41)
 cZ)
 (ay (fQ (aJ (.bool true)))
 aB)))))
noncomputable def cC:DC:=ik (bdPos [0,39]) iX
noncomputable def jN:DS:=
 (ay (jt (b7 (cw cT 43) lV (ap 0) (av (ap 1) (rE (ap 4) aF))))
 aB)
noncomputable def oX:DS:=
 (ay (bE n9 (gB (dU cT 2) (ap 0)))
 (ay (bE (aJ .none) (gB (dU cT 5) (ap 0)))
 (ay (bE (aJ (.int 0)) (gB (dU cT 11) (ap 0)))
 (ay (bE (aJ (.int 0)) (gB (dU cT 12) (ap 0)))
 (ay (jX (cF ix (ap 10) (aJ .none))
 (ay (Aa (b7 n8 w8 (ap 10) aF) (ij ([1,4].map aG))
 jN)
 aB)
 aB)
 aB)))))
noncomputable def jG:DC:=ik (bdPos [0,10]) oX
noncomputable def iI:DS:=
 (ay (fQ (bK nZ (bU (bn cW 34) (ap 0)) (bU (bn cW 34) (ap 39))))
 aB)
noncomputable def cI:DC:=ik (bdPos [0,39]) iI
noncomputable def gY:DS:=
 (ay (bE (dF [46] (ap 44) (aG 39) (kL (b7 (cw cW 47) cC (ap 46) (av (ap 39) aF))) (eM (ap 39))) (aG 48))
 (ay (bE (dF [46] (ap 45) (aG 39) (kL (b7 (cw cW 49) cI (ap 46) (av (ap 39) aF))) (eM (ap 39))) (aG 50))
 (ay (jX (ni (cF uW (ap 48) (i3 aF)) (ni (cF uW (ap 50) (i3 aF)) (λQ z z hp=>Q true hp)))
 (ay (jt (b7 ip fF (ap 45) (av (ap 46) aF)))
 aB)
 aB)
 aB)))
noncomputable def oW:DS:=
 (ay (bE (pv aF) (aG 45))
 (ay (jr (ap 44) (aG 46)
 gY)
 (ay (fQ (yL 45))
 aB)))
noncomputable def jF:DC:=ik (bdPos [44]) oW
noncomputable def jM:DS:=
 (ay (bE (dF [1] (ap 51) (ij ([52,53,54].map aG)) (cF nZ (ap 53) (ap 1)) (eM (ap 52))) (lE (ap 10) (ap 1)))
 aB)
noncomputable def jL:DS:=
 (ay (bE (dF [1,57] (ap 51) (ij ([52,53,54].map aG)) (cF nZ (ap 53) (ap 1)) (yN (bK dJ (ap 57) (ap 52)) (aG 46) fNone (eM (aS (i5 cW bw) (av (bK d9 (bU (bn cW 26) (ap 46)) (ap 54)) aF))))) (aG 44))
 (ay (bE (aS jF (av (uV (cF wk (bK dJ (ap 10) (ap 1)) (i3 aF)) (ap 44) (i3 (av (aS (i5 cW bw) (av (aJ (.str [])) aF)) aF))) aF)) (lE (ap 57) (ap 1)))
 aB))
noncomputable def jK:DS:=
 (ay (bE (b7 (cw cT 60) fZ (ap 55) aF) (aG 61))
 (ay (jt (b7 ip fF (ap 58) (av (ap 61) aF)))
 (ay (jr (ap 61) (aG 1)
 jL)
 (ay (jt (b7 (cw cT 62) kH (ap 55) (rE (ap 61) aF)))
 aB))))
noncomputable def oV:DS:=
 (ay (bE n9 (aG 10))
 (ay (jr (i3 (av (aJ (.int 4)) (av (aJ (.int 3)) (av (aJ (.int 2)) (av (aJ (.int 1)) (av (aJ (.int 0)) aF)))))) (aG 1)
 jM)
 (ay (bE (aS (wy cT jG) (av (ap 10) aF)) (aG 55))
 (ay (jt (b7 (cw cT 56) g9 (ap 55) aF))
 (ay (bE n9 (aG 57))
 (ay (bE (pv aF) (aG 58))
 (ay (oj (cF AE (b7 (cw cT 59) dS (ap 55) aF) (aJ (.bool true)))
 jK
 aB)
 (ay (fQ (rq (av (ap 57) (av (yL 58) (av (b7 (cw cT 59) dS (ap 55) aF) aF)))))
 aB))))))))
noncomputable def iD:DC:=ik (bdPos [51]) oV
noncomputable def oU(c:DC):DS:=
 (ay (bE (dF [1,51] (ap 51) (ij ([52,53,54].map aG)) (cF nZ (ap 53) (ap 1)) (yN (aS c (av (ap 51) (av (ap 52) aF))) (aG 63) fNone (eM (bK d9 (ap 63) (ap 54))))) (aG 64))
 (ay (fQ (uV (cF wk (ap 64) (i3 aF)) (ap 64) (i3 (av (aJ (.str [])) aF))))
 aB))
noncomputable def oY(c:DC):DC:=ik (bdPos [51,1]) (oU c)
noncomputable def cU:Nat→DC
 |0=>λz z z z=>False
 |n+1=>oY (cU n)
noncomputable def iG:DS:=
 (ay (bE (uV (cF nZ (ap 68) (aJ (.str [32]))) (bK d9 (ap 67) (aJ (.int 1))) (bK d9 (bK (nk (·- ·)) (ap 67) (bK n7 (ap 67) (ap 66))) (ap 66))) (aG 67))
 aB)
noncomputable def lZ:DS:=
 (ay (bE (aJ (.int 0)) (aG 67))
 (ay (jr (ap 65) (aG 68)
 iG)
 (ay (fQ (ap 67))
 aB)))
noncomputable def gZ:DC:=ik (bdPos [65,66]) lZ
noncomputable def qj:DS:=
 (ay (fQ (aS qC (av (dF [] (b7 isStr w7 (ap 65) (av (aJ (.str [9])) aF)) (aG 69) fNone (eM (aS iK (av (ap 69) aF)))) aF)))
 aB)
noncomputable def gs:DC:=ik (bdPos [65]) qj
noncomputable def iU:DS:=
 (ay (bE (dF [67] (ap 71) (aG 39) (cF uW (tg [] (aS t5 (av (ap 67) (av (ap 39) aF))) (ij ([73,74].map aG)) (cF (k4 λa b=>decide (b≤a)) (ap 73) (ap 74)) (eM (aJ (.int 1)))) (i3 aF)) (eM (ap 39))) (aG 48))
 (ay (jX (ni (cF uW (ap 48) (i3 aF)) (ni (cF tm (aS gs (av (ap 63) aF)) (ap 72)) (λQ z z hp=>Q true hp)))
 (ay (jt (b7 ip fF (ap 72) (av (aS gs (av (ap 63) aF)) aF)))
 aB)
 aB)
 aB))
noncomputable def qi:DS:=
 (ay (bE (dF [70] (ap 64) (aG 63) fNone (eM (dF [63] (ap 70) (aG 66) fNone (eM (aS gZ (av (ap 63) (av (ap 66) aF))))))) (aG 71))
 (ay (bE (pv aF) (aG 72))
 (ay (z9 (aS t5 (av (ap 64) (av (ap 71) aF))) (ij ([63,67].map aG))
 iU)
 (ay (fQ (rq (av (aS s9 (av (ap 72) aF)) (av (dF [71] (aS d4 (av (aS iK (av (ap 70) aF)) aF)) (aG 75) fNone (eM (aS mY (av (dF [75] (ap 71) (aG 67) fNone (eM (bK dJ (ap 67) (ap 75)))) aF)))) aF))))
 aB))))
noncomputable def kG:DC:=ik (bdPos [64,70]) qi
noncomputable def qN:DS:=
 (ay (bE (bK n7 (bK n7 (ap 77) (aJ (.int 10))) (aJ (.int 5))) (aG 78))
 (ay (bE (bK n7 (bK n7 (bK uX (ap 77) (aJ (.int 10))) (aJ (.int 10))) (aJ (.int 5))) (aG 79))
 (ay (jX (cF tX (ap 78) (ap 79))
 (ay (jt (b7 ip fF (ap 51) (av (rq (av (aS wx (av (ap 78) (av (ap 79) aF))) (av (aS pU (av (ap 78) (av (ap 79) aF))) (av (bK d9 (bK j7 (aJ (.str [32])) (bK n7 (bK n7 (bK uX (ap 77) (aJ (.int 100))) (aJ (.int 10))) (aJ (.int 4)))) (aJ (.str [9]))) aF)))) aF)))
 aB)
 aB)
 aB)))
noncomputable def nU:DS:=
 (ay (bE (aS (i5 cW bw) (av (bK d9 (bU (bn cW 26) (ap 46)) (aJ (.str [32]))) aF)) (aG 84))
 (ay (bE (aS (i5 cW bw) (av (bK j7 (aJ (.str [32])) (bK d9 (aS iK (av (bU (bn cW 26) (ap 46)) aF)) (aJ (.int 1)))) aF)) (aG 85))
 (ay (jX (cF wk (dF [84,46] (ap 70) (aG 66) (cF tX (b7 (cw cW 42) aY (ap 84) (av (ap 66) aF)) (bK d9 (b7 (cw cW 42) aY (ap 46) (av (ap 66) aF)) (aJ (.int 1)))) (eM (ap 66))) (i3 aF))
 (ay (fQ (aJ (.bool false)))
 aB)
 aB)
 (ay (jX (yz (cF ix (b7 (cw cW 47) cC (ap 46) (av (ap 84) aF)) (aJ (.bool true))) (yz (cF ix (b7 (cw cW 49) cI (ap 46) (av (ap 84) aF)) (aJ (.bool false))) (λQ z z hp=>Q false hp)))
 (ay (fQ (aJ (.bool false)))
 aB)
 aB)
 (ay (jX (cF ix (b7 (cw cW 47) cC (ap 46) (av (ap 85) aF)) (bK nZ (bU (bn cW 26) (ap 46)) (aJ (.str []))))
 (ay (fQ (aJ (.bool false)))
 aB)
 aB)
 aB)))))
noncomputable def lP:DS:=
 (ay (bE (aS kG (av (aS (cU 5) (av (ap 51) (av (ap 1) aF))) (av (ap 70) aF))) (ij ([72,83].map aG)))
 (ay (jX (cF tX (aS s9 (av (dF [] (bK dJ (ap 57) (ap 1)) (aG 46) fNone (eM (aS gs (av (bU (bn cW 26) (ap 46)) aF)))) aF)) (ap 72))
 (ay (fQ (aJ (.bool false)))
 aB)
 aB)
 (ay (jX (cF tX (dF [57,1] (ap 70) (aG 66) fNone (eM (aS mY (av (dF [66] (bK dJ (ap 57) (ap 1)) (aG 46) fNone (eM (b7 (cw cW 42) aY (ap 46) (av (ap 66) aF)))) aF)))) (ap 83))
 (ay (fQ (aJ (.bool false)))
 aB)
 aB)
 (ay (jr (bK dJ (ap 57) (ap 1)) (aG 46)
 nU)
 aB))))
noncomputable def Ap:DS:=
 (ay (bE (pv aF) (aG 51))
 (ay (jr (bK d9 (i3 (av (aJ (.int 340)) (av (aJ (.int 10)) (av (aJ (.int 41)) aF)))) (wj (ap 76) (aJ .none) (aJ (.int 4)) (aJ .none))) (aG 77)
 qN)
 (z8 51
 (ay (bE (i3 (av (aJ (.int 1)) (av (aJ (.int 2)) (av (aJ (.int 3)) (av (aJ (.int 4)) (av (aJ (.int 5)) (av (bK d9 (aS yM (av (aS AQ (av (ap 76) aF)) aF)) (aJ (.int 1))) aF))))))) (aG 70))
 (ay (bE (aS iD (av (ap 51) aF)) (ij ([57,58,80].map aG)))
 (ay (bE (dF [51] (aS d4 (av (aJ (.int 5)) aF)) (aG 1) fNone (eM (aS mY (av (dF [] (aS (cU 5) (av (ap 51) (av (ap 1) aF))) (aG 63) fNone (eM (b7 isStr tf (ap 63) (av (aJ (.str [9])) aF)))) aF)))) (aG 81))
 (ay (bE (dF [81] (aS d4 (av (bK d9 (aS mY (av (ap 81) aF)) (aJ (.int 1))) aF)) (aG 75) fNone (eM (dF [81,75] (aS d4 (av (aJ (.int 5)) aF)) (aG 1) (cF nZ (bK dJ (ap 81) (ap 1)) (ap 75)) (eM (ap 1))))) (aG 82))
 (ay (jX (yz (cF ix (ap 80) (aJ (.bool false))) (yz (cF tX (dF [] (ap 58) (aG 61) (kL (aS te (av (ap 61) (av (aJ (.fn (.type "tuple"))) aF)))) (eM (aS s8 (av (ap 61) aF)))) (ap 82)) (λQ z z hp=>Q false hp)))
 (ay (fQ (aJ (.bool false)))
 aB)
 aB)
 (ay (jr (aS d4 (av (aJ (.int 5)) aF)) (aG 1)
 lP)
 (ay (fQ (aJ (.bool true)))
 aB))))))))))
noncomputable def wD:DC:=ik (bdPos [76]) Ap
noncomputable abbrev bA:List Stmt:=PySem.Challenge.pw_mr0354_03.main.body
noncomputable def FC:List Str:=[ag "self",ag "node",ag "_node2info",ag "result",ag "predecessors",ag "_ready_nodes",ag "_get_nodeinfo",ag "nodeinfo",ag "pred",ag "pred_info",ag "graph",ag "_npassedout",ag "_nfinished",ag "n2i",ag "stack",ag "itstack",ag "seen",ag "node2stacki",ag "i",ag "_find_cycle",ag "cycle",ag "nodes",ag "stat",ag "successor",ag "successor_info",ag "ws",ag "raw",ag "S",ag "T",ag "count",ag "b",ag "n",ag "nt",ag "ch",ag "norm",ag "is_simple",ag "trailing",ag "tabsize",ag "il",ag "other",ag "longest_run_of_spaces",ag "ts",ag "indent_level",ag "add",ag "found",ag "best",ag "lead",ag "less",ag "beyond",ag "equal",ag "alike",ag "steps",ag "early",ag "late",ag "piece",ag "sorter",ag "prepare",ag "kept",ag "rounds",ag "is_active",ag "get_ready",ag "ready",ag "done",ag "way",ag "ways",ag "text",ag "size",ag "column",ag "sign",ag "row",ag "sizes",ag "columns",ag "bags",ag "here",ag "there",ag "k",ag "script",ag "number",ag "one",ag "two",ag "active",ag "heights",ag "due",ag "greatest",ag "longer",ag "blank"]
noncomputable def gR:Nat→Str:=nmOf FC
noncomputable abbrev P1(w:c8)(H:Heap)(K:Frag):cH:=⟨gR,PySem.Challenge.pw_mr0354_03,w,H,K⟩
structure im(w:c8)(H:Heap)(K:Frag)(mg mb:Str→Option Value):Prop where
 tp:dG (P1 w H K) mg mb
 hz:(H.get? sysModules).isSome=true
 hset:B3 "member_descriptor" "__set__" "member_descriptor.__set__"
 at__NodeInfo_node:z3 K 106 "node" 0
 at__NodeInfo_npredecessors:z3 K 106 "npredecessors" 1
 at__NodeInfo_successors:z3 K 106 "successors" 2
 fn_NodeInfo_init:FnOk (P1 w H K) 102 (bG (cP (bG bA 6)) 1) (bdPos [0,1])
 at_TS__node2info:rh K 203 "_node2info"
 mk__NodeInfo:MakeF K 106 102
 kp__NodeInfo:keepIn K (.ref 106)=true
 g__NodeInfo:mg "_NodeInfo" =some (.ref 106)
 fn_TS__get_nodeinfo:FnOk (P1 w H K) 146 (bG (cP (bG bA 8)) 1) (bdPos [0,1])
 at_TS__ready_nodes:rh K 203 "_ready_nodes"
 mt_TS__get_nodeinfo:mo K 203 "_get_nodeinfo" 146
 kp_TS__get_nodeinfo:keepIn K (.ref 146)=true
 b_len:mb "len" =some (.builtin "len")
 n_len:mg "len" =ac
 fn_TS_add:FnOk (P1 w H K) 153 (bG (cP (bG bA 8)) 2) (kD 0 1 4)
 at_TS__npassedout:rh K 203 "_npassedout"
 at_TS__nfinished:rh K 203 "_nfinished"
 mt_TS_add:mo K 203 "add" 153
 sg_TS_add:specialIn K (.ref 153) "__get__" =some (some (.builtin "function.__get__"))
 tk_TS_add:takesIn K (.ref 153)=some false
 ci_TS:(clsIn K 203).isSome=true
 fi_TS_add:fnIn K 153=true
 fn_TS_init:FnOk (P1 w H K) 139 (bG (cP (bG bA 8)) 0) (bdPos [0,10])
 b_set:mb "set" =some (.type "set")
 n_set:mg "set" =ac
 b_iter:mb "iter" =some (.builtin "iter")
 n_iter:mg "iter" =ac
 mat0:B7 (P1 w H K) (fS "StopIteration") (fS "StopIteration")
 b_StopIteration:mb "StopIteration" =some (.type "StopIteration")
 n_StopIteration:mg "StopIteration" =ac
 fn_TS__find_cycle:FnOk (P1 w H K) 193 (bG (cP (bG bA 8)) 8) (bdPos [0])
 mt_TS__find_cycle:mo K 203 "_find_cycle" 193
 kp_TS__find_cycle:keepIn K (.ref 193)=true
 own_CE:OwnCls "CycleError" 121 [.type "ValueError",.type "Exception",.type "BaseException",.type "object"] "ValueError.__new__" mg H
 g_CycleError:mg "CycleError" =some (.ref 121)
 fn_TS_prepare:FnOk (P1 w H K) 158 (bG (cP (bG bA 8)) 3) (bdPos [0])
 b_tuple:mb "tuple" =some (.type "tuple")
 n_tuple:mg "tuple" =ac
 g__NODE_OUT:∃t,mg "_NODE_OUT" =some (.int (-1) t)
 fn_TS_get_ready:FnOk (P1 w H K) 165 (bG (cP (bG bA 8)) 4) (bdPos [0])
 b_bool:mb "bool" =some (.type "bool")
 n_bool:mg "bool" =ac
 fn_TS_is_active:FnOk (P1 w H K) 172 (bG (cP (bG bA 8)) 5) (bdPos [0])
 g__NODE_DONE:∃t,mg "_NODE_DONE" =some (.int (-2) t)
 fn_TS_done:FnOk (P1 w H K) 186 (bG (cP (bG bA 8)) 7) (kE 0 21)
 at_Whitespace_raw:rh K 83 "raw"
 ca_Whitespace_S:∃tk,findCls K (.ref 83) (.type "type") "S" =some (.val (.str ⟨([32]:List Nat).toArray⟩ tk))
 rd_Whitespace:readsIn K 83 (.type "type")=true
 g_Whitespace:mg "Whitespace" =some (.ref 83)
 ca_Whitespace_T:∃tk,findCls K (.ref 83) (.type "type") "T" =some (.val (.str ⟨([9]:List Nat).toArray⟩ tk))
 at_Whitespace_n:rh K 83 "n"
 at_Whitespace_nt:rh K 83 "nt"
 at_Whitespace_norm:rh K 83 "norm"
 at_Whitespace_is_simple:rh K 83 "is_simple"
 fn_Whitespace_init:FnOk (P1 w H K) 38 (bG (cP (bG bA 2)) 1) (bdPos [0,25])
 b_max:mb "max" =some (.builtin "max")
 n_max:mg "max" =ac
 fn_Whitespace_longest_run_of_spaces:FnOk (P1 w H K) 45 (bG (cP (bG bA 2)) 2) (bdPos [0])
 b_range:mb "range" =some (.type "range")
 n_range:mg "range" =ac
 fn_Whitespace_indent_level:FnOk (P1 w H K) 52 (bG (cP (bG bA 2)) 3) (bdPos [0,37])
 mt_Whitespace_longest_run_of_spaces:mo K 83 "longest_run_of_spaces" 45
 kp_Whitespace_longest_run_of_spaces:keepIn K (.ref 45)=true
 mt_Whitespace_indent_level:mo K 83 "indent_level" 52
 kp_Whitespace_indent_level:keepIn K (.ref 52)=true
 fn_Whitespace_less:FnOk (P1 w H K) 73 (bG (cP (bG bA 2)) 6) (bdPos [0,39])
 fn_Whitespace_equal:FnOk (P1 w H K) 59 (bG (cP (bG bA 2)) 4) (bdPos [0,39])
 mt_Whitespace_less:mo K 83 "less" 73
 kp_Whitespace_less:keepIn K (.ref 73)=true
 mt_Whitespace_equal:mo K 83 "equal" 59
 kp_Whitespace_equal:keepIn K (.ref 59)=true
 fn_law_best:FnOk (P1 w H K) 212 (bG bA 10) (bdPos [44])
 mk_TS:MakeF K 203 139
 kp_TS:keepIn K (.ref 203)=true
 g_TS:mg "TopologicalSorter" =some (.ref 203)
 mt_TS_prepare:mo K 203 "prepare" 158
 kp_TS_prepare:keepIn K (.ref 158)=true
 mt_TS_is_active:mo K 203 "is_active" 172
 kp_TS_is_active:keepIn K (.ref 172)=true
 mt_TS_get_ready:mo K 203 "get_ready" 165
 kp_TS_get_ready:keepIn K (.ref 165)=true
 mk_Whitespace:MakeF K 83 38
 kp_Whitespace:keepIn K (.ref 83)=true
 kp_law_best:keepIn K (.ref 212)=true
 g__law_best:mg "_law_best" =some (.ref 212)
 mt_TS_done:mo K 203 "done" 186
 sg_TS_done:specialIn K (.ref 186) "__get__" =some (some (.builtin "function.__get__"))
 tk_TS_done:takesIn K (.ref 186)=some false
 fi_TS_done:fnIn K 186=true
 fn_law_kept:FnOk (P1 w H K) 217 (bG bA 11) (bdPos [51])
 kp_law_ways:keepIn K (.ref 222)=true
 g__law_ways:mg "_law_ways" =some (.ref 222)
 fn_law_ways:FnOk (P1 w H K) 222 (bG bA 12) (bdPos [51,1])
 fn_law_column:FnOk (P1 w H K) 229 (bG bA 13) (bdPos [65,66])
 b_sorted:mb "sorted" =some (.builtin "sorted")
 n_sorted:mg "sorted" =ac
 fn_law_bag:FnOk (P1 w H K) 234 (bG bA 14) (bdPos [65])
 kp_law_column:keepIn K (.ref 229)=true
 g__law_column:mg "_law_column" =some (.ref 229)
 b_zip:mb "zip" =some (.type "zip")
 n_zip:mg "zip" =ac
 kp_law_bag:keepIn K (.ref 234)=true
 g__law_bag:mg "_law_bag" =some (.ref 234)
 fn_law_due:FnOk (P1 w H K) 239 (bG bA 15) (bdPos [64,70])
 b_min:mb "min" =some (.builtin "min")
 n_min:mg "min" =ac
 b_sum:mb "sum" =some (.builtin "sum")
 n_sum:mg "sum" =ac
 b_abs:mb "abs" =some (.builtin "abs")
 n_abs:mg "abs" =ac
 kp_law_kept:keepIn K (.ref 217)=true
 g__law_kept:mg "_law_kept" =some (.ref 217)
 b_isinstance:mb "isinstance" =some (.builtin "isinstance")
 n_isinstance:mg "isinstance" =ac
 kp_law_due:keepIn K (.ref 239)=true
 g__law_due:mg "_law_due" =some (.ref 239)
 fn_law:FnOk (P1 w H K) 244 (bG bA 16) (bdPos [76])
variable{w:c8}{H:Heap}{K:Frag}{ex:Nat→Value}{mg mb:Str→Option Value}
theorem inj1:∀i j,gR i=gR j→i=j:=A9 _ (by decide+kernel)
set_option maxHeartbeats 4000000 in
theorem nF(F:im w H K mg mb)(hex0:ex 0= .type "StopIteration")(hex1:ex 1= .ref 121):OkK (P1 w H K) (cj ex) 2 (.ref 102) fG:=
 OkK.fn (d:=1) (nm:=gR) rfl F.tp F.fn_NodeInfo_init (BdIds.pos _) (by kernel_rfl)
 (SimSs.cons (SimS.asg Sim.v (SimG.attr (OkSet.slot F.tp F.at__NodeInfo_node F.hset) Sim.v))
 (SimSs.cons (SimS.asg Sim.cInt (SimG.attr (OkSet.slot F.tp F.at__NodeInfo_npredecessors F.hset) Sim.v))
 (SimSs.cons (SimS.asg (Sim.new SimA.nil) (SimG.attr (OkSet.slot F.tp F.at__NodeInfo_successors F.hset) Sim.v))
 SimSs.nil)))
set_option maxHeartbeats 4000000 in
theorem lw(F:im w H K mg mb)(hex0:ex 0= .type "StopIteration")(hex1:ex 1= .ref 121)(h_NodeInfo_init:OkK (P1 w H K) (cj ex) 2 (.ref 102) fG):OkK (P1 w H K) (cj ex) 4 (.ref 146) dA:=
 OkK.fn (d:=3) (nm:=gR) rfl F.tp F.fn_TS__get_nodeinfo (BdIds.pos _) (by kernel_rfl)
 (SimSs.cons (SimS.ifNamed inj1 (i:=3) rfl (by decide+kernel) (Sim.meth (Meth.dict PySem.F.slot_dict_get PySem.F.type_dict_get) (Sim.attr F.tp (i:=2) rfl F.at_TS__node2info Sim.v) (SimR.of (SimA.cons Sim.v SimA.nil)) (OkC.get F.hz) (KeepF.builtin _)) (SimSs.cons (SimS.asg2 (Sim.call (Sim.g F.tp (by kernel_rfl) F.g__NodeInfo) (SimR.of (SimA.cons Sim.v SimA.nil)) ((OkK.makeS F.tp F.mk__NodeInfo (h_NodeInfo_init)).up (by decide)).c (KeepF.inK F.tp.kin F.kp__NodeInfo)) (SimG.item (Sim.attr F.tp (i:=2) rfl F.at_TS__node2info Sim.v) Sim.v) (SimG.v inj1) (λz=>rfl) (λz=>rfl))
 SimSs.nil) SimSs.nil)
 (SimSs.cons (SimS.ret Sim.v)
 SimSs.nil))
set_option maxHeartbeats 4000000 in
theorem xT(F:im w H K mg mb)(hex0:ex 0= .type "StopIteration")(hex1:ex 1= .ref 121)(h_TS__get_nodeinfo:OkK (P1 w H K) (cj ex) 4 (.ref 146) dA):OkK (P1 w H K) (cj ex) 5 (.ref 153) lV:=
 OkK.fn (d:=4) (nm:=gR) rfl F.tp F.fn_TS_add (BdIds.star2 _ _ _) (by kernel_rfl)
 (SimSs.cons (SimS.iff (SimT.cmp ok_isNot (Sim.attr F.tp (i:=5) rfl F.at_TS__ready_nodes Sim.v) Sim.cNone)
 (SimSs.cons SimS.never
 SimSs.nil)
 SimSs.nil)
 (SimSs.cons (SimS.asgN (i:=7) inj1 rfl (by kernel_rfl) (Sim.meth (Meth.own inj1 F.tp (j:=6) rfl F.mt_TS__get_nodeinfo) Sim.v (SimR.of (SimA.cons Sim.v SimA.nil)) ((h_TS__get_nodeinfo).up (by decide)).c (KeepF.inK F.tp.kin F.kp_TS__get_nodeinfo)) (λenv h=>by cases env;cases h;rfl))
 (SimSs.cons (SimS.aug (OkGet.slot F.tp F.at__NodeInfo_npredecessors) (OkSet.slot F.tp F.at__NodeInfo_npredecessors F.hset) ok_iadd Sim.v (Sim.call (Sim.b F.tp (by kernel_rfl) F.n_len F.b_len) (SimR.of (SimA.cons Sim.v SimA.nil)) (OkC.len F.hz) (KeepF.builtin _)))
 (SimSs.cons (SimS.for F.hz (by decide) Sim.v (SimG.v inj1)
 (SimSs.cons (SimS.asgN (i:=9) inj1 rfl (by kernel_rfl) (Sim.meth (Meth.own inj1 F.tp (j:=6) rfl F.mt_TS__get_nodeinfo) Sim.v (SimR.of (SimA.cons Sim.v SimA.nil)) ((h_TS__get_nodeinfo).up (by decide)).c (KeepF.inK F.tp.kin F.kp_TS__get_nodeinfo)) (λenv h=>by cases env;cases h;rfl))
 (SimSs.cons (SimS.exp (Sim.meth (Meth.list PySem.F.slot_list_append PySem.F.type_list_append) (Sim.slot F.tp F.at__NodeInfo_successors Sim.v) (SimR.of (SimA.cons Sim.v SimA.nil)) OkC.append (KeepF.builtin _)))
 SimSs.nil)) (λz z=>rfl) (d3 8))
 SimSs.nil))))
set_option maxHeartbeats 4000000 in
theorem tM(F:im w H K mg mb)(hex0:ex 0= .type "StopIteration")(hex1:ex 1= .ref 121)(h_TS_add:OkK (P1 w H K) (cj ex) 5 (.ref 153) lV):OkK (P1 w H K) (cj ex) 6 (.ref 139) jG:=
 OkK.fn (d:=5) (nm:=gR) rfl F.tp F.fn_TS_init (BdIds.pos _) (by kernel_rfl)
 (SimSs.cons (SimS.asg Sim.dict (SimG.attr (OkSet.dict inj1 F.tp (i:=2) rfl F.at_TS__node2info) Sim.v))
 (SimSs.cons (SimS.asg Sim.cNone (SimG.attr (OkSet.dict inj1 F.tp (i:=5) rfl F.at_TS__ready_nodes) Sim.v))
 (SimSs.cons (SimS.asg Sim.cInt (SimG.attr (OkSet.dict inj1 F.tp (i:=11) rfl F.at_TS__npassedout) Sim.v))
 (SimSs.cons (SimS.asg Sim.cInt (SimG.attr (OkSet.dict inj1 F.tp (i:=12) rfl F.at_TS__nfinished) Sim.v))
 (SimSs.cons (SimS.iff (SimT.cmp ok_isNot Sim.v Sim.cNone)
 (SimSs.cons (SimS.forI ⟨_,_,_,rfl⟩ (by decide) (Sim.meth (Meth.dict PySem.F.slot_dict_items PySem.F.type_dict_items) Sim.v SimR.nil (OkC.items F.hz) (KeepF.builtin _)) (SimG.tup (by decide) (SimGs.cons (SimG.v inj1) (SimGs.cons (SimG.v inj1) SimGs.nil)) (λz=>rfl) rfl (fp [1,4]))
 (SimSs.cons (SimS.exp (Sim.methStar inj1 F.tp (j:=43) rfl F.mt_TS_add F.sg_TS_add F.tk_TS_add F.ci_TS (by show copiedNames.contains (gR 43)=false;decide+kernel) F.fi_TS_add Sim.v (SimR.of (SimA.cons Sim.v (SimA.star Sim.v SimA.nil))) ((h_TS_add).up (by decide)) (λz=>rfl) (λz=>rfl)))
 SimSs.nil) (λz z=>rfl) (uk [1,4]))
 SimSs.nil)
 SimSs.nil)
 SimSs.nil)))))
set_option maxHeartbeats 4000000 in
theorem mX(F:im w H K mg mb)(hex0:ex 0= .type "StopIteration")(hex1:ex 1= .ref 121):OkK (P1 w H K) (cj ex) 2 (.ref 193) eV:=
 OkK.fn (d:=1) (nm:=gR) rfl F.tp F.fn_TS__find_cycle (BdIds.pos _) (by kernel_rfl)
 (SimSs.cons (SimS.asgN (i:=13) inj1 rfl (by kernel_rfl) (Sim.attr F.tp (i:=2) rfl F.at_TS__node2info Sim.v) (λenv h=>by cases env;cases h;rfl))
 (SimSs.cons (SimS.asgN (i:=14) inj1 rfl (by kernel_rfl) (Sim.new SimA.nil) (λenv h=>by cases env;cases h;rfl))
 (SimSs.cons (SimS.asgN (i:=15) inj1 rfl (by kernel_rfl) (Sim.new SimA.nil) (λenv h=>by cases env;cases h;rfl))
 (SimSs.cons (SimS.asgN (i:=16) inj1 rfl (by kernel_rfl) (Sim.call (Sim.b F.tp (by kernel_rfl) F.n_set F.b_set) SimR.nil OkC.set0 (KeepF.type _)) (λenv h=>by cases env;cases h;rfl))
 (SimSs.cons (SimS.asgN (i:=17) inj1 rfl (by kernel_rfl) Sim.dict (λenv h=>by cases env;cases h;rfl))
 (SimSs.cons (SimS.for F.hz (by decide) Sim.v (SimG.v inj1)
 (SimSs.cons (SimS.iff (SimT.cmp (ok_in F.hz) Sim.v Sim.v)
 (SimSs.cons SimS.cont
 SimSs.nil)
 SimSs.nil)
 (SimSs.cons (SimS.while (SimT.val Sim.cBool (λz z=>rfl))
 (SimSs.cons (SimS.iff (SimT.cmp (ok_in F.hz) Sim.v Sim.v)
 (SimSs.cons (SimS.iff (SimT.cmp (ok_in F.hz) Sim.v Sim.v)
 (SimSs.cons (SimS.ret (Sim.bin ok_add (Sim.cut Sim.v (SimO.some (Sim.item Sim.v Sim.v (λz z=>⟨_,rfl⟩))) SimO.none SimO.none (λz z=>⟨_,rfl⟩)) (Sim.lst (SimA.cons Sim.v SimA.nil))))
 SimSs.nil)
 SimSs.nil)
 SimSs.nil)
 (SimSs.cons (SimS.exp (Sim.meth Meth.setAdd Sim.v (SimR.of (SimA.cons Sim.v SimA.nil)) OkC.add (KeepF.builtin _)))
 (SimSs.cons (SimS.exp (Sim.meth (Meth.list PySem.F.slot_list_append PySem.F.type_list_append) Sim.v (SimR.of (SimA.cons (Sim.getAttr OkGet.next (Sim.call (Sim.b F.tp (by kernel_rfl) F.n_iter F.b_iter) (SimR.of (SimA.cons (Sim.slot F.tp F.at__NodeInfo_successors (Sim.item Sim.v Sim.v (λz z=>⟨_,rfl⟩))) SimA.nil)) OkC.iter (KeepF.builtin _)) (λz=>rfl)) SimA.nil)) OkC.append (KeepF.builtin _)))
 (SimSs.cons (SimS.asg (Sim.call (Sim.b F.tp (by kernel_rfl) F.n_len F.b_len) (SimR.of (SimA.cons Sim.v SimA.nil)) (OkC.len F.hz) (KeepF.builtin _)) (SimG.item Sim.v Sim.v))
 (SimSs.cons (SimS.exp (Sim.meth (Meth.list PySem.F.slot_list_append PySem.F.type_list_append) Sim.v (SimR.of (SimA.cons Sim.v SimA.nil)) OkC.append (KeepF.builtin _)))
 SimSs.nil)))))
 (SimSs.cons (SimS.while (SimT.val Sim.v (λz z=>rfl))
 (SimSs.cons (SimS.try (SimSs.cons (SimS.asgN (i:=1) inj1 rfl (by kernel_rfl) (Sim.next (by decide) hex0 (Sim.item Sim.v (Sim.neg Sim.cInt) (λz z=>⟨_,rfl⟩)) (λz=>rfl)) (λenv h=>by cases env;cases h;rfl))
 (SimSs.cons SimS.brk
 SimSs.nil)) (NameIs.built F.tp (by kernel_rfl) (by kernel_rfl) F.n_StopIteration F.b_StopIteration) (hex0▸F.mat0) (SimSs.cons (SimS.del Sim.v (Sim.meth (Meth.list PySem.F.slot_list_pop PySem.F.type_list_pop) Sim.v SimR.nil OkC.pop (KeepF.builtin _)))
 (SimSs.cons (SimS.exp (Sim.meth (Meth.list PySem.F.slot_list_pop PySem.F.type_list_pop) Sim.v SimR.nil OkC.pop (KeepF.builtin _)))
 SimSs.nil)))
 SimSs.nil)
 (SimSs.cons SimS.brk
 SimSs.nil))
 SimSs.nil))
 SimSs.nil)
 SimSs.nil)) (λz z=>rfl) (d3 1))
 (SimSs.cons (SimS.ret Sim.cNone)
 SimSs.nil)))))))
set_option maxHeartbeats 4000000 in
theorem qT(F:im w H K mg mb)(hex0:ex 0= .type "StopIteration")(hex1:ex 1= .ref 121)(h_TS__find_cycle:OkK (P1 w H K) (cj ex) 2 (.ref 193) eV):OkK (P1 w H K) (cj ex) 3 (.ref 158) g9:=
 OkK.fn (d:=2) (nm:=gR) rfl F.tp F.fn_TS_prepare (BdIds.pos _) (by kernel_rfl)
 (SimSs.cons (SimS.iff (SimT.cmp ok_isNot (Sim.attr F.tp (i:=5) rfl F.at_TS__ready_nodes Sim.v) Sim.cNone)
 (SimSs.cons SimS.never
 SimSs.nil)
 SimSs.nil)
 (SimSs.cons (SimS.asg (Sim.compN F.hz (by decide) (fr:=[]) (.inl rfl) (bf.of (nm:=gR)) (Sim.meth (Meth.dict PySem.F.slot_dict_values PySem.F.type_dict_values) (Sim.attr F.tp (i:=2) rfl F.at_TS__node2info Sim.v) SimR.nil (OkC.values F.hz) (KeepF.builtin _)) (SimG.v inj1) (Tgt.var 18) (eg.one (SimT.cmp ok_eq (Sim.slot F.tp F.at__NodeInfo_npredecessors Sim.v) Sim.cInt)) (SimI.elt rfl (Sim.slot F.tp F.at__NodeInfo_node Sim.v)) (by decide+kernel) (λz z=>rfl)) (SimG.attr (OkSet.dict inj1 F.tp (i:=5) rfl F.at_TS__ready_nodes) Sim.v))
 (SimSs.cons (SimS.asgN (i:=20) inj1 rfl (by kernel_rfl) (Sim.meth (Meth.own inj1 F.tp (j:=19) rfl F.mt_TS__find_cycle) Sim.v SimR.nil ((h_TS__find_cycle).up (by decide)).c (KeepF.inK F.tp.kin F.kp_TS__find_cycle)) (λenv h=>by cases env;cases h;rfl))
 (SimSs.cons (SimS.iff (SimT.val Sim.v (λz z=>rfl))
 (SimSs.cons (SimS.raise (by decide) (NameIs.glob F.tp (by kernel_rfl) (by kernel_rfl) F.g_CycleError) F.own_CE PySem.F.excBase_ValueError hex1 (SimR.of (SimA.cons (Sim.joined1 (Sim.cStr (l:=[110,111,100,101,115,32,97,114,101,32,105,110,32,97,32,99,121,99,108,101]) (by decide+kernel))) (SimA.cons Sim.v SimA.nil))) (λz=>rfl))
 SimSs.nil)
 SimSs.nil)
 SimSs.nil))))
set_option maxHeartbeats 4000000 in
theorem pd(F:im w H K mg mb)(hex0:ex 0= .type "StopIteration")(hex1:ex 1= .ref 121):OkK (P1 w H K) (cj ex) 2 (.ref 165) fZ:=
 OkK.fn (d:=1) (nm:=gR) rfl F.tp F.fn_TS_get_ready (BdIds.pos _) (by kernel_rfl)
 (SimSs.cons (SimS.iff (SimT.cmp ok_is (Sim.attr F.tp (i:=5) rfl F.at_TS__ready_nodes Sim.v) Sim.cNone)
 (SimSs.cons SimS.never
 SimSs.nil)
 SimSs.nil)
 (SimSs.cons (SimS.asgN (i:=3) inj1 rfl (by kernel_rfl) (Sim.call (Sim.b F.tp (by kernel_rfl) F.n_tuple F.b_tuple) (SimR.of (SimA.cons (Sim.attr F.tp (i:=5) rfl F.at_TS__ready_nodes Sim.v) SimA.nil)) OkC.tupL (KeepF.type _)) (λenv h=>by cases env;cases h;rfl))
 (SimSs.cons (SimS.asgN (i:=13) inj1 rfl (by kernel_rfl) (Sim.attr F.tp (i:=2) rfl F.at_TS__node2info Sim.v) (λenv h=>by cases env;cases h;rfl))
 (SimSs.cons (SimS.for F.hz (by decide) Sim.v (SimG.v inj1)
 (SimSs.cons (SimS.asg (Sim.globInt F.tp (by decide+kernel) (by decide+kernel) F.g__NODE_OUT) (SimG.attr (OkSet.slot F.tp F.at__NodeInfo_npredecessors F.hset) (Sim.item Sim.v Sim.v (λz z=>⟨_,rfl⟩))))
 SimSs.nil) (λz z=>rfl) (d3 1))
 (SimSs.cons (SimS.exp (Sim.meth (Meth.list PySem.F.slot_list_clear PySem.F.type_list_clear) (Sim.attr F.tp (i:=5) rfl F.at_TS__ready_nodes Sim.v) SimR.nil OkC.clear (KeepF.builtin _)))
 (SimSs.cons (SimS.aug (OkGet.dict F.tp (i:=11) rfl F.at_TS__npassedout) (OkSet.dict inj1 F.tp (i:=11) rfl F.at_TS__npassedout) ok_iadd Sim.v (Sim.call (Sim.b F.tp (by kernel_rfl) F.n_len F.b_len) (SimR.of (SimA.cons Sim.v SimA.nil)) (OkC.len F.hz) (KeepF.builtin _)))
 (SimSs.cons (SimS.ret Sim.v)
 SimSs.nil)))))))
set_option maxHeartbeats 4000000 in
theorem pc(F:im w H K mg mb)(hex0:ex 0= .type "StopIteration")(hex1:ex 1= .ref 121):OkK (P1 w H K) (cj ex) 2 (.ref 172) dS:=
 OkK.fn (d:=1) (nm:=gR) rfl F.tp F.fn_TS_is_active (BdIds.pos _) (by kernel_rfl)
 (SimSs.cons (SimS.iff (SimT.cmp ok_is (Sim.attr F.tp (i:=5) rfl F.at_TS__ready_nodes Sim.v) Sim.cNone)
 (SimSs.cons SimS.never
 SimSs.nil)
 SimSs.nil)
 (SimSs.cons (SimS.ret (Sim.or2 (Sim.cmp Ct (Sim.attr F.tp (i:=12) rfl F.at_TS__nfinished Sim.v) (Sim.attr F.tp (i:=11) rfl F.at_TS__npassedout Sim.v) rfl) (Sim.call (Sim.b F.tp (by kernel_rfl) F.n_bool F.b_bool) (SimR.of (SimA.cons (Sim.attr F.tp (i:=5) rfl F.at_TS__ready_nodes Sim.v) SimA.nil)) OkC.bool (KeepF.type _))))
 SimSs.nil))
set_option maxHeartbeats 4000000 in
theorem vt(F:im w H K mg mb)(hex0:ex 0= .type "StopIteration")(hex1:ex 1= .ref 121):OkK (P1 w H K) (cj ex) 2 (.ref 186) kH:=
 OkK.fn (d:=1) (nm:=gR) rfl F.tp F.fn_TS_done (BdIds.star1 _ _) (by kernel_rfl)
 (SimSs.cons (SimS.iff (SimT.cmp ok_is (Sim.attr F.tp (i:=5) rfl F.at_TS__ready_nodes Sim.v) Sim.cNone)
 (SimSs.cons SimS.never
 SimSs.nil)
 SimSs.nil)
 (SimSs.cons (SimS.asgN (i:=13) inj1 rfl (by kernel_rfl) (Sim.attr F.tp (i:=2) rfl F.at_TS__node2info Sim.v) (λenv h=>by cases env;cases h;rfl))
 (SimSs.cons (SimS.for F.hz (by decide) Sim.v (SimG.v inj1)
 (SimSs.cons (SimS.ifNamed inj1 (i:=7) rfl (by decide+kernel) (Sim.meth (Meth.dict PySem.F.slot_dict_get PySem.F.type_dict_get) Sim.v (SimR.of (SimA.cons Sim.v SimA.nil)) (OkC.get F.hz) (KeepF.builtin _)) (SimSs.cons SimS.never
 SimSs.nil) SimSs.nil)
 (SimSs.cons (SimS.asgN (i:=22) inj1 rfl (by kernel_rfl) (Sim.slot F.tp F.at__NodeInfo_npredecessors Sim.v) (λenv h=>by cases env;cases h;rfl))
 (SimSs.cons (SimS.iff (SimT.cmp ok_ne Sim.v (Sim.globInt F.tp (by decide+kernel) (by decide+kernel) F.g__NODE_OUT))
 (SimSs.cons (SimS.iff (SimT.cmp ok_ge Sim.v Sim.cInt)
 (SimSs.cons SimS.never
 SimSs.nil)
 (SimSs.cons (SimS.iff (SimT.cmp ok_eq Sim.v (Sim.globInt F.tp (by decide+kernel) (by decide+kernel) F.g__NODE_DONE))
 (SimSs.cons SimS.never
 SimSs.nil)
 (SimSs.cons SimS.never
 SimSs.nil))
 SimSs.nil))
 SimSs.nil)
 SimSs.nil)
 (SimSs.cons (SimS.asg (Sim.globInt F.tp (by decide+kernel) (by decide+kernel) F.g__NODE_DONE) (SimG.attr (OkSet.slot F.tp F.at__NodeInfo_npredecessors F.hset) Sim.v))
 (SimSs.cons (SimS.for F.hz (by decide) (Sim.slot F.tp F.at__NodeInfo_successors Sim.v) (SimG.v inj1)
 (SimSs.cons (SimS.asgN (i:=24) inj1 rfl (by kernel_rfl) (Sim.item Sim.v Sim.v (λz z=>⟨_,rfl⟩)) (λenv h=>by cases env;cases h;rfl))
 (SimSs.cons (SimS.aug (OkGet.slot F.tp F.at__NodeInfo_npredecessors) (OkSet.slot F.tp F.at__NodeInfo_npredecessors F.hset) ok_isub Sim.v Sim.cInt)
 (SimSs.cons (SimS.iff (SimT.cmp ok_eq (Sim.slot F.tp F.at__NodeInfo_npredecessors Sim.v) Sim.cInt)
 (SimSs.cons (SimS.exp (Sim.meth (Meth.list PySem.F.slot_list_append PySem.F.type_list_append) (Sim.attr F.tp (i:=5) rfl F.at_TS__ready_nodes Sim.v) (SimR.of (SimA.cons Sim.v SimA.nil)) OkC.append (KeepF.builtin _)))
 SimSs.nil)
 SimSs.nil)
 SimSs.nil))) (λz z=>rfl) (d3 23))
 (SimSs.cons (SimS.aug (OkGet.dict F.tp (i:=12) rfl F.at_TS__nfinished) (OkSet.dict inj1 F.tp (i:=12) rfl F.at_TS__nfinished) ok_iadd Sim.v Sim.cInt)
 SimSs.nil)))))) (λz z=>rfl) (d3 1))
 SimSs.nil)))
set_option maxHeartbeats 4000000 in
theorem me(F:im w H K mg mb)(hex0:ex 0= .type "StopIteration")(hex1:ex 1= .ref 121):OkK (P1 w H K) (cj ex) 2 (.ref 38) bw:=
 OkK.fn (d:=1) (nm:=gR) rfl F.tp F.fn_Whitespace_init (BdIds.pos _) (by kernel_rfl)
 (SimSs.cons (SimS.asg Sim.v (SimG.attr (OkSet.dict inj1 F.tp (i:=26) rfl F.at_Whitespace_raw) Sim.v))
 (SimSs.cons (SimS.swap inj1 (i:=27) (j:=28) (by decide) (by show jk (gR 27) _=_;decide+kernel) (by show jk (gR 28) _=_;decide+kernel) (Sim.tup (SimA.cons (Sim.clsAttr F.tp (NameIs.glob F.tp (by kernel_rfl) (by kernel_rfl) F.g_Whitespace) F.rd_Whitespace F.ca_Whitespace_S.choose_spec) (SimA.cons (Sim.clsAttr F.tp (NameIs.glob F.tp (by kernel_rfl) (by kernel_rfl) F.g_Whitespace) F.rd_Whitespace F.ca_Whitespace_T.choose_spec) SimA.nil))) (λz=>rfl) (λenv h=>by cases env;cases h;rfl))
 (SimSs.cons (SimS.asgN (i:=29) inj1 rfl (by kernel_rfl) (Sim.new SimA.nil) (λenv h=>by cases env;cases h;rfl))
 (SimSs.cons (SimS.asg3 Sim.cInt (SimG.v inj1) (SimG.v inj1) (SimG.v inj1) (λz=>rfl) (λz=>rfl))
 (SimSs.cons (SimS.for F.hz (by decide) (Sim.attr F.tp (i:=26) rfl F.at_Whitespace_raw Sim.v) (SimG.v inj1)
 (SimSs.cons (SimS.iff (SimT.cmp ok_eq Sim.v Sim.v)
 (SimSs.cons (SimS.asgN (i:=31) inj1 rfl (by kernel_rfl) (Sim.bin ok_add Sim.v Sim.cInt) (λenv h=>by cases env;cases h;rfl))
 (SimSs.cons (SimS.asgN (i:=30) inj1 rfl (by kernel_rfl) (Sim.bin ok_add Sim.v Sim.cInt) (λenv h=>by cases env;cases h;rfl))
 SimSs.nil))
 (SimSs.cons (SimS.iff (SimT.cmp ok_eq Sim.v Sim.v)
 (SimSs.cons (SimS.asgN (i:=31) inj1 rfl (by kernel_rfl) (Sim.bin ok_add Sim.v Sim.cInt) (λenv h=>by cases env;cases h;rfl))
 (SimSs.cons (SimS.asgN (i:=32) inj1 rfl (by kernel_rfl) (Sim.bin ok_add Sim.v Sim.cInt) (λenv h=>by cases env;cases h;rfl))
 (SimSs.cons (SimS.iff (SimT.cmp ok_ge Sim.v (Sim.call (Sim.b F.tp (by kernel_rfl) F.n_len F.b_len) (SimR.of (SimA.cons Sim.v SimA.nil)) (OkC.len F.hz) (KeepF.builtin _)))
 (SimSs.cons (SimS.asgN (i:=29) inj1 rfl (by kernel_rfl) (Sim.bin y9 Sim.v (Sim.bin ok_mulA (Sim.lst (SimA.cons Sim.cInt SimA.nil)) (Sim.bin ok_add (Sim.bin sR Sim.v (Sim.call (Sim.b F.tp (by kernel_rfl) F.n_len F.b_len) (SimR.of (SimA.cons Sim.v SimA.nil)) (OkC.len F.hz) (KeepF.builtin _))) Sim.cInt))) (λenv h=>by cases env;cases h;rfl))
 SimSs.nil)
 SimSs.nil)
 (SimSs.cons (SimS.asg (Sim.bin ok_add (Sim.item Sim.v Sim.v (λz z=>⟨_,rfl⟩)) Sim.cInt) (SimG.item Sim.v Sim.v))
 (SimSs.cons (SimS.asgN (i:=30) inj1 rfl (by kernel_rfl) Sim.cInt (λenv h=>by cases env;cases h;rfl))
 SimSs.nil)))))
 (SimSs.cons SimS.brk
 SimSs.nil))
 SimSs.nil))
 SimSs.nil) (λz z=>rfl) (d3 33))
 (SimSs.cons (SimS.asg Sim.v (SimG.attr (OkSet.dict inj1 F.tp (i:=31) rfl F.at_Whitespace_n) Sim.v))
 (SimSs.cons (SimS.asg Sim.v (SimG.attr (OkSet.dict inj1 F.tp (i:=32) rfl F.at_Whitespace_nt) Sim.v))
 (SimSs.cons (SimS.asg (Sim.tup (SimA.cons (Sim.call (Sim.b F.tp (by kernel_rfl) F.n_tuple F.b_tuple) (SimR.of (SimA.cons Sim.v SimA.nil)) OkC.tupL (KeepF.type _)) (SimA.cons Sim.v SimA.nil))) (SimG.attr (OkSet.dict inj1 F.tp (i:=34) rfl F.at_Whitespace_norm) Sim.v))
 (SimSs.cons (SimS.asg (Sim.cmp Ac (Sim.call (Sim.b F.tp (by kernel_rfl) F.n_len F.b_len) (SimR.of (SimA.cons Sim.v SimA.nil)) (OkC.len F.hz) (KeepF.builtin _)) Sim.cInt rfl) (SimG.attr (OkSet.dict inj1 F.tp (i:=35) rfl F.at_Whitespace_is_simple) Sim.v))
 SimSs.nil)))))))))
set_option maxHeartbeats 4000000 in
theorem fM(F:im w H K mg mb)(hex0:ex 0= .type "StopIteration")(hex1:ex 1= .ref 121):OkK (P1 w H K) (cj ex) 2 (.ref 45) aO:=
 OkK.fn (d:=1) (nm:=gR) rfl F.tp F.fn_Whitespace_longest_run_of_spaces (BdIds.pos _) (by kernel_rfl)
 (SimSs.cons (SimS.asg (Sim.attr F.tp (i:=34) rfl F.at_Whitespace_norm Sim.v) (SimG.tup (by decide) (SimGs.cons (SimG.v inj1) (SimGs.cons (SimG.v inj1) SimGs.nil)) (λz=>rfl) rfl (fp [29,36])))
 (SimSs.cons (SimS.ret (Sim.call (Sim.b F.tp (by kernel_rfl) F.n_max F.b_max) (SimR.of (SimA.cons (Sim.bin sR (Sim.call (Sim.b F.tp (by kernel_rfl) F.n_len F.b_len) (SimR.of (SimA.cons Sim.v SimA.nil)) (OkC.len F.hz) (KeepF.builtin _)) Sim.cInt) (SimA.cons Sim.v SimA.nil))) (OkC.max2 (by decide)) (KeepF.builtin _)))
 SimSs.nil))
set_option maxHeartbeats 4000000 in
theorem iN(F:im w H K mg mb)(hex0:ex 0= .type "StopIteration")(hex1:ex 1= .ref 121):OkK (P1 w H K) (cj ex) 2 (.ref 52) aY:=
 OkK.fn (d:=1) (nm:=gR) rfl F.tp F.fn_Whitespace_indent_level (BdIds.pos _) (by kernel_rfl)
 (SimSs.cons (SimS.asg (Sim.attr F.tp (i:=34) rfl F.at_Whitespace_norm Sim.v) (SimG.tup (by decide) (SimGs.cons (SimG.v inj1) (SimGs.cons (SimG.v inj1) SimGs.nil)) (λz=>rfl) rfl (fp [29,36])))
 (SimSs.cons (SimS.asgN (i:=38) inj1 rfl (by kernel_rfl) Sim.cInt (λenv h=>by cases env;cases h;rfl))
 (SimSs.cons (SimS.for F.hz (by decide) (Sim.call (Sim.b F.tp (by kernel_rfl) F.n_range F.b_range) (SimR.of (SimA.cons Sim.v (SimA.cons (Sim.call (Sim.b F.tp (by kernel_rfl) F.n_len F.b_len) (SimR.of (SimA.cons Sim.v SimA.nil)) (OkC.len F.hz) (KeepF.builtin _)) SimA.nil))) OkC.range2 (KeepF.type _)) (SimG.v inj1)
 (SimSs.cons (SimS.asgN (i:=38) inj1 rfl (by kernel_rfl) (Sim.bin ok_add Sim.v (Sim.bin ok_mulA (Sim.bin sT Sim.v Sim.v) (Sim.item Sim.v Sim.v (λz z=>⟨_,rfl⟩)))) (λenv h=>by cases env;cases h;rfl))
 SimSs.nil) (λz z=>rfl) (d3 18))
 (SimSs.cons (SimS.ret (Sim.bin ok_add Sim.v (Sim.bin ok_mulA Sim.v (Sim.bin ok_add Sim.v (Sim.attr F.tp (i:=32) rfl F.at_Whitespace_nt Sim.v)))))
 SimSs.nil))))
set_option maxHeartbeats 4000000 in
theorem md(F:im w H K mg mb)(hex0:ex 0= .type "StopIteration")(hex1:ex 1= .ref 121)(h_Whitespace_indent_level:OkK (P1 w H K) (cj ex) 2 (.ref 52) aY)(h_Whitespace_longest_run_of_spaces:OkK (P1 w H K) (cj ex) 2 (.ref 45) aO):OkK (P1 w H K) (cj ex) 3 (.ref 73) cC:=
 OkK.fn (d:=2) (nm:=gR) rfl F.tp F.fn_Whitespace_less (BdIds.pos _) (by kernel_rfl)
 (SimSs.cons (SimS.iff (SimT.cmp ok_ge (Sim.attr F.tp (i:=31) rfl F.at_Whitespace_n Sim.v) (Sim.attr F.tp (i:=31) rfl F.at_Whitespace_n Sim.v))
 (SimSs.cons (SimS.ret Sim.cBool)
 SimSs.nil)
 SimSs.nil)
 (SimSs.cons (SimS.iff (SimT.and2 (SimT.val (Sim.attr F.tp (i:=35) rfl F.at_Whitespace_is_simple Sim.v) (λz z=>rfl)) (SimT.val (Sim.attr F.tp (i:=35) rfl F.at_Whitespace_is_simple Sim.v) (λz z=>rfl)))
 (SimSs.cons (SimS.ret (Sim.cmp Ac (Sim.attr F.tp (i:=32) rfl F.at_Whitespace_nt Sim.v) (Sim.attr F.tp (i:=32) rfl F.at_Whitespace_nt Sim.v) rfl))
 SimSs.nil)
 SimSs.nil)
 (SimSs.cons (SimS.asgN (i:=31) inj1 rfl (by kernel_rfl) (Sim.bin ok_add (Sim.call (Sim.b F.tp (by kernel_rfl) F.n_max F.b_max) (SimR.of (SimA.cons (Sim.meth (Meth.own inj1 F.tp (j:=40) rfl F.mt_Whitespace_longest_run_of_spaces) Sim.v SimR.nil ((h_Whitespace_longest_run_of_spaces).up (by decide)).c (KeepF.inK F.tp.kin F.kp_Whitespace_longest_run_of_spaces)) (SimA.cons (Sim.meth (Meth.own inj1 F.tp (j:=40) rfl F.mt_Whitespace_longest_run_of_spaces) Sim.v SimR.nil ((h_Whitespace_longest_run_of_spaces).up (by decide)).c (KeepF.inK F.tp.kin F.kp_Whitespace_longest_run_of_spaces)) SimA.nil))) (OkC.max2 (by decide)) (KeepF.builtin _)) Sim.cInt) (λenv h=>by cases env;cases h;rfl))
 (SimSs.cons (SimS.for F.hz (by decide) (Sim.call (Sim.b F.tp (by kernel_rfl) F.n_range F.b_range) (SimR.of (SimA.cons Sim.cInt (SimA.cons (Sim.bin ok_add Sim.v Sim.cInt) SimA.nil))) OkC.range2 (KeepF.type _)) (SimG.v inj1)
 (SimSs.cons (SimS.iff (SimT.cmp ok_ge (Sim.meth (Meth.own inj1 F.tp (j:=42) rfl F.mt_Whitespace_indent_level) Sim.v (SimR.of (SimA.cons Sim.v SimA.nil)) ((h_Whitespace_indent_level).up (by decide)).c (KeepF.inK F.tp.kin F.kp_Whitespace_indent_level)) (Sim.meth (Meth.own inj1 F.tp (j:=42) rfl F.mt_Whitespace_indent_level) Sim.v (SimR.of (SimA.cons Sim.v SimA.nil)) ((h_Whitespace_indent_level).up (by decide)).c (KeepF.inK F.tp.kin F.kp_Whitespace_indent_level)))
 (SimSs.cons (SimS.ret Sim.cBool)
 SimSs.nil)
 SimSs.nil)
 SimSs.nil) (λz z=>rfl) (d3 41))
 (SimSs.cons (SimS.ret Sim.cBool)
 SimSs.nil)))))
set_option maxHeartbeats 4000000 in
theorem lu(F:im w H K mg mb)(hex0:ex 0= .type "StopIteration")(hex1:ex 1= .ref 121):OkK (P1 w H K) (cj ex) 2 (.ref 59) cI:=
 OkK.fn (d:=1) (nm:=gR) rfl F.tp F.fn_Whitespace_equal (BdIds.pos _) (by kernel_rfl)
 (SimSs.cons (SimS.ret (Sim.cmp ok_eq (Sim.attr F.tp (i:=34) rfl F.at_Whitespace_norm Sim.v) (Sim.attr F.tp (i:=34) rfl F.at_Whitespace_norm Sim.v) rfl))
 SimSs.nil)
set_option maxHeartbeats 4000000 in
theorem tL(F:im w H K mg mb)(hex0:ex 0= .type "StopIteration")(hex1:ex 1= .ref 121)(h_Whitespace_equal:OkK (P1 w H K) (cj ex) 2 (.ref 59) cI)(h_Whitespace_less:OkK (P1 w H K) (cj ex) 3 (.ref 73) cC):OkK (P1 w H K) (cj ex) 4 (.ref 212) jF:=
 OkK.fn (d:=3) (nm:=gR) rfl F.tp F.fn_law_best (BdIds.pos _) (by kernel_rfl)
 (SimSs.cons (SimS.asgN (i:=45) inj1 rfl (by kernel_rfl) (Sim.new SimA.nil) (λenv h=>by cases env;cases h;rfl))
 (SimSs.cons (SimS.for F.hz (by decide) Sim.v (SimG.v inj1)
 (SimSs.cons (SimS.asgComp inj1 F.hz (by decide) (i:=48) (fr:=[46]) (.inl rfl) rfl (by kernel_rfl) (bf.of (nm:=gR)) Sim.v (SimG.v inj1) (Tgt.var 39) (eg.one (SimT.val (Sim.meth (Meth.own inj1 F.tp (j:=47) rfl F.mt_Whitespace_less) Sim.v (SimR.of (SimA.cons Sim.v SimA.nil)) ((h_Whitespace_less).up (by decide)).c (KeepF.inK F.tp.kin F.kp_Whitespace_less)) (λz z=>rfl))) (SimI.elt rfl Sim.v) (by decide+kernel) (λz z=>rfl) (λenv h=>by cases env;cases h;rfl))
 (SimSs.cons (SimS.asgComp inj1 F.hz (by decide) (i:=50) (fr:=[46]) (.inl rfl) rfl (by kernel_rfl) (bf.of (nm:=gR)) Sim.v (SimG.v inj1) (Tgt.var 39) (eg.one (SimT.val (Sim.meth (Meth.own inj1 F.tp (j:=49) rfl F.mt_Whitespace_equal) Sim.v (SimR.of (SimA.cons Sim.v SimA.nil)) ((h_Whitespace_equal).up (by decide)).c (KeepF.inK F.tp.kin F.kp_Whitespace_equal)) (λz z=>rfl))) (SimI.elt rfl Sim.v) (by decide+kernel) (λz z=>rfl) (λenv h=>by cases env;cases h;rfl))
 (SimSs.cons (SimS.iff (SimT.and2 (SimT.cmp ok_eq0 Sim.v (Sim.lst SimA.nil)) (SimT.cmp ok_eq0 Sim.v (Sim.lst SimA.nil)))
 (SimSs.cons (SimS.exp (Sim.meth (Meth.list PySem.F.slot_list_append PySem.F.type_list_append) Sim.v (SimR.of (SimA.cons Sim.v SimA.nil)) OkC.append (KeepF.builtin _)))
 SimSs.nil)
 SimSs.nil)
 SimSs.nil))) (λz z=>rfl) (d3 46))
 (SimSs.cons (SimS.ret (Sim.frz rfl (by kernel_rfl) (by kernel_rfl) (by kernel_rfl)))
 SimSs.nil)))
set_option maxHeartbeats 4000000 in
theorem tK(F:im w H K mg mb)(hex0:ex 0= .type "StopIteration")(hex1:ex 1= .ref 121)(h_TS_init3:OkK (P1 w H K) (cj ex) 6 (.ref 139) jG)(h_TS_done:OkK (P1 w H K) (cj ex) 2 (.ref 186) kH)(h_TS_get_ready:OkK (P1 w H K) (cj ex) 2 (.ref 165) fZ)(h_TS_is_active:OkK (P1 w H K) (cj ex) 2 (.ref 172) dS)(h_TS_prepare:OkK (P1 w H K) (cj ex) 3 (.ref 158) g9)(h_Whitespace_init:OkK (P1 w H K) (cj ex) 2 (.ref 38) bw)(h_law_best:OkK (P1 w H K) (cj ex) 4 (.ref 212) jF):OkK (P1 w H K) (cj ex) 8 (.ref 217) iD:=
 OkK.fn (d:=7) (nm:=gR) rfl F.tp F.fn_law_kept (BdIds.pos _) (by kernel_rfl)
 (SimSs.cons (SimS.asgN (i:=10) inj1 rfl (by kernel_rfl) Sim.dict (λenv h=>by cases env;cases h;rfl))
 (SimSs.cons (SimS.for F.hz (by decide) (Sim.lst (SimA.cons Sim.cInt (SimA.cons Sim.cInt (SimA.cons Sim.cInt (SimA.cons Sim.cInt (SimA.cons Sim.cInt SimA.nil)))))) (SimG.v inj1)
 (SimSs.cons (SimS.asg (Sim.comp F.hz (by decide) (fr:=[1]) (.inl rfl) (bf.of (nm:=gR)) Sim.v (SimG.tup (by decide) (SimGs.cons (SimG.v inj1) (SimGs.cons (SimG.v inj1) (SimGs.cons (SimG.v inj1) SimGs.nil))) (λz=>rfl) rfl (fp [52,53,54])) (Tgt.tup (by decide+kernel)) (eg.one (SimT.cmp ok_eq Sim.v Sim.v)) (SimI.elt rfl Sim.v) (by decide+kernel) (λz z=>rfl)) (SimG.item Sim.v Sim.v))
 SimSs.nil) (λz z=>rfl) (d3 1))
 (SimSs.cons (SimS.asgN (i:=55) inj1 rfl (by kernel_rfl) (Sim.call (Sim.g F.tp (by kernel_rfl) F.g_TS) (SimR.of (SimA.cons Sim.v SimA.nil)) ((OkK.make F.tp F.mk_TS (h_TS_init3)).up (by decide)).c (KeepF.inK F.tp.kin F.kp_TS)) (λenv h=>by cases env;cases h;rfl))
 (SimSs.cons (SimS.exp (Sim.meth (Meth.own inj1 F.tp (j:=56) rfl F.mt_TS_prepare) Sim.v SimR.nil ((h_TS_prepare).up (by decide)).c (KeepF.inK F.tp.kin F.kp_TS_prepare)))
 (SimSs.cons (SimS.asgN (i:=57) inj1 rfl (by kernel_rfl) Sim.dict (λenv h=>by cases env;cases h;rfl))
 (SimSs.cons (SimS.asgN (i:=58) inj1 rfl (by kernel_rfl) (Sim.new SimA.nil) (λenv h=>by cases env;cases h;rfl))
 (SimSs.cons (SimS.while (SimT.cmp ok_is (Sim.meth (Meth.own inj1 F.tp (j:=59) rfl F.mt_TS_is_active) Sim.v SimR.nil ((h_TS_is_active).up (by decide)).c (KeepF.inK F.tp.kin F.kp_TS_is_active)) Sim.cBool)
 (SimSs.cons (SimS.asgN (i:=61) inj1 rfl (by kernel_rfl) (Sim.meth (Meth.own inj1 F.tp (j:=60) rfl F.mt_TS_get_ready) Sim.v SimR.nil ((h_TS_get_ready).up (by decide)).c (KeepF.inK F.tp.kin F.kp_TS_get_ready)) (λenv h=>by cases env;cases h;rfl))
 (SimSs.cons (SimS.exp (Sim.meth (Meth.list PySem.F.slot_list_append PySem.F.type_list_append) Sim.v (SimR.of (SimA.cons Sim.v SimA.nil)) OkC.append (KeepF.builtin _)))
 (SimSs.cons (SimS.for F.hz (by decide) Sim.v (SimG.v inj1)
 (SimSs.cons (SimS.asgComp inj1 F.hz (by decide) (i:=44) (fr:=[1,57]) (.inr ⟨_,_,_,rfl⟩) rfl (by kernel_rfl) (bf.of (nm:=gR)) Sim.v (SimG.tup (by decide) (SimGs.cons (SimG.v inj1) (SimGs.cons (SimG.v inj1) (SimGs.cons (SimG.v inj1) SimGs.nil))) (λz=>rfl) rfl (fp [52,53,54])) (Tgt.tup (by decide+kernel)) (eg.one (SimT.cmp ok_eq Sim.v Sim.v)) (SimI.gen F.hz (by decide) rfl (.inl rfl) (Sim.item Sim.v Sim.v (λz z=>⟨_,rfl⟩)) (SimG.v inj1) (Tgt.var 46) eg.nil (SimI.elt rfl (Sim.call (Sim.g F.tp (by kernel_rfl) F.g_Whitespace) (SimR.of (SimA.cons (Sim.bin ok_add (Sim.attr F.tp (i:=26) rfl F.at_Whitespace_raw Sim.v) Sim.v) SimA.nil)) ((OkK.makeF F.tp F.mk_Whitespace (h_Whitespace_init)).up (by decide)).c (KeepF.inK F.tp.kin F.kp_Whitespace))) (by decide+kernel) (λz z=>rfl)) (by decide+kernel) (λz z=>rfl) (λenv h=>by cases env;cases h;rfl))
 (SimSs.cons (SimS.asg (Sim.call (Sim.g F.tp (by kernel_rfl) F.g__law_best) (SimR.of (SimA.cons (Sim.ite (SimT.cmp ok_ne0 (Sim.item Sim.v Sim.v (λz z=>⟨_,rfl⟩)) (Sim.lst SimA.nil)) Sim.v (Sim.lst (SimA.cons (Sim.call (Sim.g F.tp (by kernel_rfl) F.g_Whitespace) (SimR.of (SimA.cons (Sim.cStr (l:=[]) (by decide+kernel)) SimA.nil)) ((OkK.makeF F.tp F.mk_Whitespace (h_Whitespace_init)).up (by decide)).c (KeepF.inK F.tp.kin F.kp_Whitespace)) SimA.nil))) SimA.nil)) ((h_law_best).up (by decide)).c (KeepF.inK F.tp.kin F.kp_law_best)) (SimG.item Sim.v Sim.v))
 SimSs.nil)) (λz z=>rfl) (d3 1))
 (SimSs.cons (SimS.exp (Sim.methStar inj1 F.tp (j:=62) rfl F.mt_TS_done F.sg_TS_done F.tk_TS_done F.ci_TS (by show copiedNames.contains (gR 62)=false;decide+kernel) F.fi_TS_done Sim.v (SimR.lone Sim.v) ((h_TS_done).up (by decide)) (λz=>rfl) (λz=>rfl)))
 SimSs.nil))))
 SimSs.nil)
 (SimSs.cons (SimS.ret (Sim.tup (SimA.cons Sim.v (SimA.cons (Sim.frz rfl (by kernel_rfl) (by kernel_rfl) (by kernel_rfl)) (SimA.cons (Sim.meth (Meth.own inj1 F.tp (j:=59) rfl F.mt_TS_is_active) Sim.v SimR.nil ((h_TS_is_active).up (by decide)).c (KeepF.inK F.tp.kin F.kp_TS_is_active)) SimA.nil)))))
 SimSs.nil))))))))
set_option maxHeartbeats 4000000 in
theorem iC(F:im w H K mg mb)(hex0:ex 0= .type "StopIteration")(hex1:ex 1= .ref 121){c:DC}{n:Nat}(hn:0<n)(hr:OkK (P1 w H K) (cj ex) n (.ref 222) c):OkK (P1 w H K) (cj ex) (n+1) (.ref 222) (oY c):=
 OkK.fn (d:=n) (nm:=gR) rfl F.tp F.fn_law_ways (BdIds.pos _) (by kernel_rfl)
 (SimSs.cons (SimS.asgComp inj1 F.hz hn (i:=64) (fr:=[1,51]) (.inr ⟨_,_,_,rfl⟩) rfl (by kernel_rfl) (bf.of (nm:=gR)) Sim.v (SimG.tup hn (SimGs.cons (SimG.v inj1) (SimGs.cons (SimG.v inj1) (SimGs.cons (SimG.v inj1) SimGs.nil))) (λz=>rfl) rfl (fp [52,53,54])) (Tgt.tup (by decide+kernel)) (eg.one (SimT.cmp ok_eq Sim.v Sim.v)) (SimI.gen F.hz hn rfl (.inl rfl) (Sim.call (Sim.g F.tp (by kernel_rfl) F.g__law_ways) (SimR.of (SimA.cons Sim.v (SimA.cons Sim.v SimA.nil))) ((hr).up (bx _)).c (KeepF.inK F.tp.kin F.kp_law_ways)) (SimG.v inj1) (Tgt.var 63) eg.nil (SimI.elt rfl (Sim.bin ok_add Sim.v Sim.v)) (by decide+kernel) (λz z=>rfl)) (by decide+kernel) (λz z=>rfl) (λenv h=>by cases env;cases h;rfl))
 (SimSs.cons (SimS.ret (Sim.ite (SimT.cmp ok_ne0 Sim.v (Sim.lst SimA.nil)) Sim.v (Sim.lst (SimA.cons (Sim.cStr (l:=[]) (by decide+kernel)) SimA.nil))))
 SimSs.nil))
set_option maxHeartbeats 4000000 in
theorem qS(F:im w H K mg mb)(hex0:ex 0= .type "StopIteration")(hex1:ex 1= .ref 121):OkK (P1 w H K) (cj ex) 2 (.ref 229) gZ:=
 OkK.fn (d:=1) (nm:=gR) rfl F.tp F.fn_law_column (BdIds.pos _) (by kernel_rfl)
 (SimSs.cons (SimS.asgN (i:=67) inj1 rfl (by kernel_rfl) Sim.cInt (λenv h=>by cases env;cases h;rfl))
 (SimSs.cons (SimS.for F.hz (by decide) Sim.v (SimG.v inj1)
 (SimSs.cons (SimS.asgN (i:=67) inj1 rfl (by kernel_rfl) (Sim.ite (SimT.cmp ok_eq Sim.v (Sim.cStr (l:=[32]) (by decide+kernel))) (Sim.bin ok_add Sim.v Sim.cInt) (Sim.bin ok_add (Sim.bin sR Sim.v (Sim.bin k8 Sim.v Sim.v)) Sim.v)) (λenv h=>by cases env;cases h;rfl))
 SimSs.nil) (λz z=>rfl) (d3 68))
 (SimSs.cons (SimS.ret Sim.v)
 SimSs.nil)))
set_option maxHeartbeats 4000000 in
theorem vr(F:im w H K mg mb)(hex0:ex 0= .type "StopIteration")(hex1:ex 1= .ref 121):OkK (P1 w H K) (cj ex) 2 (.ref 234) gs:=
 OkK.fn (d:=1) (nm:=gR) rfl F.tp F.fn_law_bag (BdIds.pos _) (by kernel_rfl)
 (SimSs.cons (SimS.ret (Sim.call (Sim.b F.tp (by kernel_rfl) F.n_sorted F.b_sorted) (SimR.of (SimA.cons (Sim.comp F.hz (by decide) (fr:=[]) (.inl rfl) (bf.of (nm:=gR)) (Sim.meth (Meth.str PySem.F.slot_str_split PySem.F.type_str_split) Sim.v (SimR.of (SimA.cons (Sim.cStr (l:=[9]) (by decide+kernel)) SimA.nil)) OkC.split (KeepF.builtin _)) (SimG.v inj1) (Tgt.var 69) eg.nil (SimI.elt rfl (Sim.call (Sim.b F.tp (by kernel_rfl) F.n_len F.b_len) (SimR.of (SimA.cons Sim.v SimA.nil)) (OkC.len F.hz) (KeepF.builtin _))) (by decide+kernel) (λz z=>rfl)) SimA.nil)) OkC.sortInts (KeepF.builtin _)))
 SimSs.nil)
set_option maxHeartbeats 4000000 in
theorem vq(F:im w H K mg mb)(hex0:ex 0= .type "StopIteration")(hex1:ex 1= .ref 121)(h_law_bag:OkK (P1 w H K) (cj ex) 2 (.ref 234) gs)(h_law_column:OkK (P1 w H K) (cj ex) 2 (.ref 229) gZ):OkK (P1 w H K) (cj ex) 3 (.ref 239) kG:=
 OkK.fn (d:=2) (nm:=gR) rfl F.tp F.fn_law_due (BdIds.pos _) (by kernel_rfl)
 (SimSs.cons (SimS.asgN (i:=71) inj1 rfl (by kernel_rfl) (Sim.comp F.hz (by decide) (fr:=[70]) (.inl rfl) (bf.of (nm:=gR)) Sim.v (SimG.v inj1) (Tgt.var 63) eg.nil (SimI.elt rfl (Sim.comp F.hz (by decide) (fr:=[63]) (.inl rfl) (bf.of (nm:=gR)) Sim.v (SimG.v inj1) (Tgt.var 66) eg.nil (SimI.elt rfl (Sim.call (Sim.g F.tp (by kernel_rfl) F.g__law_column) (SimR.of (SimA.cons Sim.v (SimA.cons Sim.v SimA.nil))) ((h_law_column).up (by decide)).c (KeepF.inK F.tp.kin F.kp_law_column))) (by decide+kernel) (λz z=>rfl))) (by decide+kernel) (λz z=>rfl)) (λenv h=>by cases env;cases h;rfl))
 (SimSs.cons (SimS.asgN (i:=72) inj1 rfl (by kernel_rfl) (Sim.new SimA.nil) (λenv h=>by cases env;cases h;rfl))
 (SimSs.cons (SimS.forZ ⟨_,_,_,rfl⟩ (by decide) (Sim.call (Sim.b F.tp (by kernel_rfl) F.n_zip F.b_zip) (SimR.of (SimA.cons Sim.v (SimA.cons Sim.v SimA.nil))) OkC.zip2 (KeepF.type _)) (SimG.tup (by decide) (SimGs.cons (SimG.v inj1) (SimGs.cons (SimG.v inj1) SimGs.nil)) (λz=>rfl) rfl (fp [63,67]))
 (SimSs.cons (SimS.asgComp inj1 F.hz (by decide) (i:=48) (fr:=[67]) (.inl rfl) rfl (by kernel_rfl) (bf.of (nm:=gR)) Sim.v (SimG.v inj1) (Tgt.var 39) (eg.one (SimT.cmp ok_eq0 (Sim.compZ (by decide) (fr:=[]) ⟨_,_,_,rfl⟩ (.inl rfl) (bf.of (nm:=gR)) (Sim.call (Sim.b F.tp (by kernel_rfl) F.n_zip F.b_zip) (SimR.of (SimA.cons Sim.v (SimA.cons Sim.v SimA.nil))) OkC.zip2 (KeepF.type _)) (SimG.tup (by decide) (SimGs.cons (SimG.v inj1) (SimGs.cons (SimG.v inj1) SimGs.nil)) (λz=>rfl) rfl (fp [73,74])) (Tgt.tup (by decide+kernel)) (eg.one (SimT.cmp ok_ge Sim.v Sim.v)) (SimI.elt rfl Sim.cInt) (by decide+kernel) (λz z=>rfl)) (Sim.lst SimA.nil))) (SimI.elt rfl Sim.v) (by decide+kernel) (λz z=>rfl) (λenv h=>by cases env;cases h;rfl))
 (SimSs.cons (SimS.iff (SimT.and2 (SimT.cmp ok_eq0 Sim.v (Sim.lst SimA.nil)) (SimT.cmp (ok_notIn F.hz) (Sim.call (Sim.g F.tp (by kernel_rfl) F.g__law_bag) (SimR.of (SimA.cons Sim.v SimA.nil)) ((h_law_bag).up (by decide)).c (KeepF.inK F.tp.kin F.kp_law_bag)) Sim.v))
 (SimSs.cons (SimS.exp (Sim.meth (Meth.list PySem.F.slot_list_append PySem.F.type_list_append) Sim.v (SimR.of (SimA.cons (Sim.call (Sim.g F.tp (by kernel_rfl) F.g__law_bag) (SimR.of (SimA.cons Sim.v SimA.nil)) ((h_law_bag).up (by decide)).c (KeepF.inK F.tp.kin F.kp_law_bag)) SimA.nil)) OkC.append (KeepF.builtin _)))
 SimSs.nil)
 SimSs.nil)
 SimSs.nil)) (λz z=>rfl) (uk [63,67]))
 (SimSs.cons (SimS.ret (Sim.tup (SimA.cons (Sim.call (Sim.b F.tp (by kernel_rfl) F.n_sorted F.b_sorted) (SimR.of (SimA.cons Sim.v SimA.nil)) OkC.sortL (KeepF.builtin _)) (SimA.cons (Sim.comp F.hz (by decide) (fr:=[71]) (.inl rfl) (bf.of (nm:=gR)) (Sim.call (Sim.b F.tp (by kernel_rfl) F.n_range F.b_range) (SimR.of (SimA.cons (Sim.call (Sim.b F.tp (by kernel_rfl) F.n_len F.b_len) (SimR.of (SimA.cons Sim.v SimA.nil)) (OkC.len F.hz) (KeepF.builtin _)) SimA.nil)) OkC.range1 (KeepF.type _)) (SimG.v inj1) (Tgt.var 75) eg.nil (SimI.elt rfl (Sim.call (Sim.b F.tp (by kernel_rfl) F.n_max F.b_max) (SimR.of (SimA.cons (Sim.comp F.hz (by decide) (fr:=[75]) (.inl rfl) (bf.of (nm:=gR)) Sim.v (SimG.v inj1) (Tgt.var 67) eg.nil (SimI.elt rfl (Sim.item Sim.v Sim.v (λz z=>⟨_,rfl⟩))) (by decide+kernel) (λz z=>rfl)) SimA.nil)) (OkC.maxL (by decide)) (KeepF.builtin _))) (by decide+kernel) (λz z=>rfl)) SimA.nil))))
 SimSs.nil))))
set_option maxHeartbeats 4000000 in
theorem Cv(F:im w H K mg mb)(hex0:ex 0= .type "StopIteration")(hex1:ex 1= .ref 121)(h_Whitespace_init:OkK (P1 w H K) (cj ex) 2 (.ref 38) bw)(h_Whitespace_equal:OkK (P1 w H K) (cj ex) 2 (.ref 59) cI)(h_Whitespace_indent_level:OkK (P1 w H K) (cj ex) 2 (.ref 52) aY)(h_Whitespace_less:OkK (P1 w H K) (cj ex) 3 (.ref 73) cC)(h_law_bag:OkK (P1 w H K) (cj ex) 2 (.ref 234) gs)(h_law_due:OkK (P1 w H K) (cj ex) 3 (.ref 239) kG)(h_law_kept:OkK (P1 w H K) (cj ex) 8 (.ref 217) iD)(h_law_ways:OkK (P1 w H K) (cj ex) 6 (.ref 222) (cU 5)):OkK (P1 w H K) (cj ex) 9 (.ref 244) wD:=
 OkK.fn (d:=8) (nm:=gR) rfl F.tp F.fn_law (BdIds.pos _) (by kernel_rfl)
 (SimSs.cons (SimS.asgN (i:=51) inj1 rfl (by kernel_rfl) (Sim.new SimA.nil) (λenv h=>by cases env;cases h;rfl))
 (SimSs.cons (SimS.for F.hz (by decide) (Sim.bin ok_add (Sim.lst (SimA.cons Sim.cInt (SimA.cons Sim.cInt (SimA.cons Sim.cInt SimA.nil)))) (Sim.cut Sim.v SimO.none (SimO.some Sim.cInt) SimO.none (λz z=>⟨_,rfl⟩))) (SimG.v inj1)
 (SimSs.cons (SimS.asgN (i:=78) inj1 rfl (by kernel_rfl) (Sim.bin k8 (Sim.bin k8 Sim.v Sim.cInt) Sim.cInt) (λenv h=>by cases env;cases h;rfl))
 (SimSs.cons (SimS.asgN (i:=79) inj1 rfl (by kernel_rfl) (Sim.bin k8 (Sim.bin k8 (Sim.bin sT Sim.v Sim.cInt) Sim.cInt) Sim.cInt) (λenv h=>by cases env;cases h;rfl))
 (SimSs.cons (SimS.iff (SimT.cmp ok_ne Sim.v Sim.v)
 (SimSs.cons (SimS.exp (Sim.meth (Meth.list PySem.F.slot_list_append PySem.F.type_list_append) Sim.v (SimR.of (SimA.cons (Sim.tup (SimA.cons (Sim.call (Sim.b F.tp (by kernel_rfl) F.n_min F.b_min) (SimR.of (SimA.cons Sim.v (SimA.cons Sim.v SimA.nil))) (OkC.min2 (by decide)) (KeepF.builtin _)) (SimA.cons (Sim.call (Sim.b F.tp (by kernel_rfl) F.n_max F.b_max) (SimR.of (SimA.cons Sim.v (SimA.cons Sim.v SimA.nil))) (OkC.max2 (by decide)) (KeepF.builtin _)) (SimA.cons (Sim.bin ok_add (Sim.bin ok_mulA (Sim.cStr (l:=[32]) (by decide+kernel)) (Sim.bin k8 (Sim.bin k8 (Sim.bin sT Sim.v Sim.cInt) Sim.cInt) Sim.cInt)) (Sim.cStr (l:=[9]) (by decide+kernel))) SimA.nil)))) SimA.nil)) OkC.append (KeepF.builtin _)))
 SimSs.nil)
 SimSs.nil)
 SimSs.nil))) (λz z=>rfl) (d3 77))
 (SimSs.frz (i:=51)
 (SimSs.cons (SimS.asgN (i:=70) inj1 rfl (by kernel_rfl) (Sim.lst (SimA.cons Sim.cInt (SimA.cons Sim.cInt (SimA.cons Sim.cInt (SimA.cons Sim.cInt (SimA.cons Sim.cInt (SimA.cons (Sim.bin ok_add (Sim.call (Sim.b F.tp (by kernel_rfl) F.n_abs F.b_abs) (SimR.of (SimA.cons (Sim.call (Sim.b F.tp (by kernel_rfl) F.n_sum F.b_sum) (SimR.of (SimA.cons Sim.v SimA.nil)) (OkC.sum (by decide)) (KeepF.builtin _)) SimA.nil)) OkC.abs (KeepF.builtin _)) Sim.cInt) SimA.nil))))))) (λenv h=>by cases env;cases h;rfl))
 (SimSs.cons (SimS.asg (Sim.call (Sim.g F.tp (by kernel_rfl) F.g__law_kept) (SimR.of (SimA.cons Sim.v SimA.nil)) ((h_law_kept).up (by decide)).c (KeepF.inK F.tp.kin F.kp_law_kept)) (SimG.tup (by decide) (SimGs.cons (SimG.v inj1) (SimGs.cons (SimG.v inj1) (SimGs.cons (SimG.v inj1) SimGs.nil))) (λz=>rfl) rfl (fp [57,58,80])))
 (SimSs.cons (SimS.asgN (i:=81) inj1 rfl (by kernel_rfl) (Sim.comp F.hz (by decide) (fr:=[51]) (.inl rfl) (bf.of (nm:=gR)) (Sim.call (Sim.b F.tp (by kernel_rfl) F.n_range F.b_range) (SimR.of (SimA.cons Sim.cInt SimA.nil)) OkC.range1 (KeepF.type _)) (SimG.v inj1) (Tgt.var 1) eg.nil (SimI.elt rfl (Sim.call (Sim.b F.tp (by kernel_rfl) F.n_max F.b_max) (SimR.of (SimA.cons (Sim.comp F.hz (by decide) (fr:=[]) (.inl rfl) (bf.of (nm:=gR)) (Sim.call (Sim.g F.tp (by kernel_rfl) F.g__law_ways) (SimR.of (SimA.cons Sim.v (SimA.cons Sim.v SimA.nil))) ((h_law_ways).up (by decide)).c (KeepF.inK F.tp.kin F.kp_law_ways)) (SimG.v inj1) (Tgt.var 63) eg.nil (SimI.elt rfl (Sim.meth (Meth.str PySem.F.slot_str_count PySem.F.type_str_count) Sim.v (SimR.of (SimA.cons (Sim.cStr (l:=[9]) (by decide+kernel)) SimA.nil)) OkC.count (KeepF.builtin _))) (by decide+kernel) (λz z=>rfl)) SimA.nil)) (OkC.maxL (by decide)) (KeepF.builtin _))) (by decide+kernel) (λz z=>rfl)) (λenv h=>by cases env;cases h;rfl))
 (SimSs.cons (SimS.asgComp inj1 F.hz (by decide) (i:=82) (fr:=[81]) (.inl rfl) rfl (by kernel_rfl) (bf.of (nm:=gR)) (Sim.call (Sim.b F.tp (by kernel_rfl) F.n_range F.b_range) (SimR.of (SimA.cons (Sim.bin ok_add (Sim.call (Sim.b F.tp (by kernel_rfl) F.n_max F.b_max) (SimR.of (SimA.cons Sim.v SimA.nil)) (OkC.maxL (by decide)) (KeepF.builtin _)) Sim.cInt) SimA.nil)) OkC.range1 (KeepF.type _)) (SimG.v inj1) (Tgt.var 75) eg.nil (SimI.elt rfl (Sim.comp F.hz (by decide) (fr:=[81,75]) (.inl rfl) (bf.of (nm:=gR)) (Sim.call (Sim.b F.tp (by kernel_rfl) F.n_range F.b_range) (SimR.of (SimA.cons Sim.cInt SimA.nil)) OkC.range1 (KeepF.type _)) (SimG.v inj1) (Tgt.var 1) (eg.one (SimT.cmp ok_eq (Sim.item Sim.v Sim.v (λz z=>⟨_,rfl⟩)) Sim.v)) (SimI.elt rfl Sim.v) (by decide+kernel) (λz z=>rfl))) (by decide+kernel) (λz z=>rfl) (λenv h=>by cases env;cases h;rfl))
 (SimSs.cons (SimS.iff (SimT.or2 (SimT.cmp ok_isNot Sim.v Sim.cBool) (SimT.cmp ok_ne (Sim.comp F.hz (by decide) (fr:=[]) (.inl rfl) (bf.of (nm:=gR)) Sim.v (SimG.v inj1) (Tgt.var 61) (eg.one (SimT.val (Sim.call (Sim.b F.tp (by kernel_rfl) F.n_isinstance F.b_isinstance) (SimR.of (SimA.cons Sim.v (SimA.cons (Sim.b F.tp (by kernel_rfl) F.n_tuple F.b_tuple) SimA.nil))) OkC.isTup (KeepF.builtin _)) (λz z=>rfl))) (SimI.elt rfl (Sim.call (Sim.b F.tp (by kernel_rfl) F.n_sorted F.b_sorted) (SimR.of (SimA.cons Sim.v SimA.nil)) OkC.sortT (KeepF.builtin _))) (by decide+kernel) (λz z=>rfl)) Sim.v))
 (SimSs.cons (SimS.ret Sim.cBool)
 SimSs.nil)
 SimSs.nil)
 (SimSs.cons (SimS.for F.hz (by decide) (Sim.call (Sim.b F.tp (by kernel_rfl) F.n_range F.b_range) (SimR.of (SimA.cons Sim.cInt SimA.nil)) OkC.range1 (KeepF.type _)) (SimG.v inj1)
 (SimSs.cons (SimS.asg (Sim.call (Sim.g F.tp (by kernel_rfl) F.g__law_due) (SimR.of (SimA.cons (Sim.call (Sim.g F.tp (by kernel_rfl) F.g__law_ways) (SimR.of (SimA.cons Sim.v (SimA.cons Sim.v SimA.nil))) ((h_law_ways).up (by decide)).c (KeepF.inK F.tp.kin F.kp_law_ways)) (SimA.cons Sim.v SimA.nil))) ((h_law_due).up (by decide)).c (KeepF.inK F.tp.kin F.kp_law_due)) (SimG.tup (by decide) (SimGs.cons (SimG.v inj1) (SimGs.cons (SimG.v inj1) SimGs.nil)) (λz=>rfl) rfl (fp [72,83])))
 (SimSs.cons (SimS.iff (SimT.cmp ok_ne (Sim.call (Sim.b F.tp (by kernel_rfl) F.n_sorted F.b_sorted) (SimR.of (SimA.cons (Sim.comp F.hz (by decide) (fr:=[]) (.inl rfl) (bf.of (nm:=gR)) (Sim.item Sim.v Sim.v (λz z=>⟨_,rfl⟩)) (SimG.v inj1) (Tgt.var 46) eg.nil (SimI.elt rfl (Sim.call (Sim.g F.tp (by kernel_rfl) F.g__law_bag) (SimR.of (SimA.cons (Sim.attr F.tp (i:=26) rfl F.at_Whitespace_raw Sim.v) SimA.nil)) ((h_law_bag).up (by decide)).c (KeepF.inK F.tp.kin F.kp_law_bag))) (by decide+kernel) (λz z=>rfl)) SimA.nil)) OkC.sortL (KeepF.builtin _)) Sim.v)
 (SimSs.cons (SimS.ret Sim.cBool)
 SimSs.nil)
 SimSs.nil)
 (SimSs.cons (SimS.iff (SimT.cmp ok_ne (Sim.comp F.hz (by decide) (fr:=[57,1]) (.inl rfl) (bf.of (nm:=gR)) Sim.v (SimG.v inj1) (Tgt.var 66) eg.nil (SimI.elt rfl (Sim.call (Sim.b F.tp (by kernel_rfl) F.n_max F.b_max) (SimR.of (SimA.cons (Sim.comp F.hz (by decide) (fr:=[66]) (.inl rfl) (bf.of (nm:=gR)) (Sim.item Sim.v Sim.v (λz z=>⟨_,rfl⟩)) (SimG.v inj1) (Tgt.var 46) eg.nil (SimI.elt rfl (Sim.meth (Meth.own inj1 F.tp (j:=42) rfl F.mt_Whitespace_indent_level) Sim.v (SimR.of (SimA.cons Sim.v SimA.nil)) ((h_Whitespace_indent_level).up (by decide)).c (KeepF.inK F.tp.kin F.kp_Whitespace_indent_level))) (by decide+kernel) (λz z=>rfl)) SimA.nil)) (OkC.maxL (by decide)) (KeepF.builtin _))) (by decide+kernel) (λz z=>rfl)) Sim.v)
 (SimSs.cons (SimS.ret Sim.cBool)
 SimSs.nil)
 SimSs.nil)
 (SimSs.cons (SimS.for F.hz (by decide) (Sim.item Sim.v Sim.v (λz z=>⟨_,rfl⟩)) (SimG.v inj1)
 (SimSs.cons (SimS.asgN (i:=84) inj1 rfl (by kernel_rfl) (Sim.call (Sim.g F.tp (by kernel_rfl) F.g_Whitespace) (SimR.of (SimA.cons (Sim.bin ok_add (Sim.attr F.tp (i:=26) rfl F.at_Whitespace_raw Sim.v) (Sim.cStr (l:=[32]) (by decide+kernel))) SimA.nil)) ((OkK.makeF F.tp F.mk_Whitespace (h_Whitespace_init)).up (by decide)).c (KeepF.inK F.tp.kin F.kp_Whitespace)) (λenv h=>by cases env;cases h;rfl))
 (SimSs.cons (SimS.asgN (i:=85) inj1 rfl (by kernel_rfl) (Sim.call (Sim.g F.tp (by kernel_rfl) F.g_Whitespace) (SimR.of (SimA.cons (Sim.bin ok_mulA (Sim.cStr (l:=[32]) (by decide+kernel)) (Sim.bin ok_add (Sim.call (Sim.b F.tp (by kernel_rfl) F.n_len F.b_len) (SimR.of (SimA.cons (Sim.attr F.tp (i:=26) rfl F.at_Whitespace_raw Sim.v) SimA.nil)) (OkC.len F.hz) (KeepF.builtin _)) Sim.cInt)) SimA.nil)) ((OkK.makeF F.tp F.mk_Whitespace (h_Whitespace_init)).up (by decide)).c (KeepF.inK F.tp.kin F.kp_Whitespace)) (λenv h=>by cases env;cases h;rfl))
 (SimSs.cons (SimS.iff (SimT.cmp ok_ne0 (Sim.comp F.hz (by decide) (fr:=[84,46]) (.inl rfl) (bf.of (nm:=gR)) Sim.v (SimG.v inj1) (Tgt.var 66) (eg.one (SimT.cmp ok_ne (Sim.meth (Meth.own inj1 F.tp (j:=42) rfl F.mt_Whitespace_indent_level) Sim.v (SimR.of (SimA.cons Sim.v SimA.nil)) ((h_Whitespace_indent_level).up (by decide)).c (KeepF.inK F.tp.kin F.kp_Whitespace_indent_level)) (Sim.bin ok_add (Sim.meth (Meth.own inj1 F.tp (j:=42) rfl F.mt_Whitespace_indent_level) Sim.v (SimR.of (SimA.cons Sim.v SimA.nil)) ((h_Whitespace_indent_level).up (by decide)).c (KeepF.inK F.tp.kin F.kp_Whitespace_indent_level)) Sim.cInt))) (SimI.elt rfl Sim.v) (by decide+kernel) (λz z=>rfl)) (Sim.lst SimA.nil))
 (SimSs.cons (SimS.ret Sim.cBool)
 SimSs.nil)
 SimSs.nil)
 (SimSs.cons (SimS.iff (SimT.or2 (SimT.cmp ok_isNot (Sim.meth (Meth.own inj1 F.tp (j:=47) rfl F.mt_Whitespace_less) Sim.v (SimR.of (SimA.cons Sim.v SimA.nil)) ((h_Whitespace_less).up (by decide)).c (KeepF.inK F.tp.kin F.kp_Whitespace_less)) Sim.cBool) (SimT.cmp ok_isNot (Sim.meth (Meth.own inj1 F.tp (j:=49) rfl F.mt_Whitespace_equal) Sim.v (SimR.of (SimA.cons Sim.v SimA.nil)) ((h_Whitespace_equal).up (by decide)).c (KeepF.inK F.tp.kin F.kp_Whitespace_equal)) Sim.cBool))
 (SimSs.cons (SimS.ret Sim.cBool)
 SimSs.nil)
 SimSs.nil)
 (SimSs.cons (SimS.iff (SimT.cmp ok_isNot (Sim.meth (Meth.own inj1 F.tp (j:=47) rfl F.mt_Whitespace_less) Sim.v (SimR.of (SimA.cons Sim.v SimA.nil)) ((h_Whitespace_less).up (by decide)).c (KeepF.inK F.tp.kin F.kp_Whitespace_less)) (Sim.cmp ok_eq (Sim.attr F.tp (i:=26) rfl F.at_Whitespace_raw Sim.v) (Sim.cStr (l:=[]) (by decide+kernel)) rfl))
 (SimSs.cons (SimS.ret Sim.cBool)
 SimSs.nil)
 SimSs.nil)
 SimSs.nil))))) (λz z=>rfl) (d3 46))
 SimSs.nil)))) (λz z=>rfl) (d3 1))
 (SimSs.cons (SimS.ret Sim.cBool)
 SimSs.nil))))))))))
end Mine
namespace Mine.Hd
open PySem PySem.W PySem.W.X PySem.Calls PyProof.Rows
noncomputable def j2(i j:Nat):Stmt:=bG (cP (bG bA i)) j
noncomputable def s(x:Str)(t:Tok):Value:=.str x t
noncomputable def e(P:mr)(x:Str)(t:Tok)(v:Value):DictEntry:=⟨PyData.keyHash P x,.str x t,v⟩
noncomputable def tu(l:List Value):Obj:={cls:=.type "tuple",data:=.seq ⟨l⟩}
noncomputable def fi(l:List Value):Obj:={cls:=.none,data:=.fields ⟨l⟩}
noncomputable def co(a b c:Str)(n:Nat)(l x f y:Int)(z:Int)(bb:Value):List Value→Obj
 | [r1,r2,v1,v2,v3,v4]=>{cls:=.type "code",data:=.fields #[.str a n,.str b (n+1),.str c (n+2),.int l 0,.int x 0,.int 0 0,.int 0 0,.int f 0,r1,bb,.int y 0,r2,v1,v2,v3,v4,.int z 0,.int l 0,.str c (z.toNat+1)]}
 |_=>default
noncomputable def fo(st:Stmt)(n q:Str)(g:Addr)(d pm cd:Value):FuncData:=⟨n,q,An st,.stmts (cP st),k7 st,g,[],d,.none,.none,pm,none,cd,.none,0⟩
noncomputable def FI(P:mr):Obj:=fi []
noncomputable def O(P:mr):List Obj:=[
boot_o_0 P,
boot_o_1 P,
boot_o_2 P,
⟨(.type "dict"),none,(.dict #[e P "__name__" 165 (s "law_mr0354_03" 478),e P "__doc__" 166 .none,e P "__package__" 167 .none,e P "__loader__" 168 (.builtin "__main__.__loader__#opaque"),e P "__spec__" 169 .none,e P "__annotations__" 170 (.ref 6),e P "__builtins__" 171 (.ref 4),e P "__file__" 173 (s "/claim/cut.py" 172),e P "__cached__" 174 .none,e P "_wall" 193 (.ref 21),e P "Whitespace" 295 (.ref 83),e P "_NODE_OUT" 300 (.int (-1) 299),e P "_NODE_DONE" 303 (.int (-2) 302),e P "_NodeInfo" 340 (.ref 106),e P "CycleError" 358 (.ref 121),e P "TopologicalSorter" 477 (.ref 203),e P "_law_best" 485 (.ref 212),e P "_law_kept" 491 (.ref 217),e P "_law_ways" 497 (.ref 222),e P "_law_column" 507 (.ref 229),e P "_law_bag" 513 (.ref 234),e P "_law_due" 519 (.ref 239),e P "law" 525 (.ref 244)] 23),#[]⟩,
boot_o_4 P,
boot_o_5 P,
boot_o_6 P,
boot_o_7 P,
boot_o_8 P,
boot_o_9 P,
boot_o_10 P,
tu [],
fi [(.int 1 0),(.int 0 0),(.ref 20),(.int 5 0),(.int 0 0),(.ref 27),(.int 64 0),(.int 0 0),(.ref 93),(.int 71 0),(.int 0 0),(.ref 117),(.int 73 0),(.int 0 0),(.ref 130),(.int 180 0),(.int 0 0),(.ref 211),(.int 188 0),(.int 0 0),(.ref 216),(.int 204 0),(.int 0 0),(.ref 221),(.int 207 0),(.int 0 0),(.ref 228),(.int 212 0),(.int 0 0),(.ref 233),(.int 214 0),(.int 0 0),(.ref 238),(.int 222 0),(.int 0 0),(.ref 243)],
co "<module>" "<module>" "/claim/cut.py" 182 1 0 0 181 185 (.bool false) [(.ref 11),(.ref 12),.none,.none,.none,.none],
⟨(.type "frame"),none,.plain,#[(some (.ref 13)),(some (.ref 3)),(some (.ref 3)),none,(some (s "__main__" 164)),none,(some (.ref 0))]⟩,
tu [],
fi [],
tu [(s "k" 190)],
tu [],
⟨.none,none,(.func (fo (bG bA 0) "_wall" "_wall" 0 .none .none .none)),#[]⟩,
co "_wall" "_wall" "/claim/cut.py" 187 1 1 3 181 191 (.bool true) [(.ref 15),(.ref 16),.none,(.ref 17),(.ref 18),(.ref 19)],
⟨(.type "function"),none,(.func (fo (bG bA 0) "_wall" "_wall" 3 .none (s "__main__" 164) (.ref 20))),#[]⟩,
tu [],
⟨(.type "builtin_function_or_method"),none,(.fields #[(.builtin "type.__prepare__"),(.type "type")]),#[]⟩,
⟨(.type "dict"),none,(.dict #[e P "__module__" 203 (s "cpy313.tabnanny" 194),e P "__qualname__" 205 (s "Whitespace" 204),e P "__firstlineno__" 207 (.int 5 206),e P "S" 211 (s " " 209),e P "T" 212 (s "\u0009" 210),e P "__init__" 227 (.ref 38),e P "longest_run_of_spaces" 236 (.ref 45),e P "indent_level" 248 (.ref 52),e P "equal" 256 (.ref 59),e P "not_equal_witness" 264 (.ref 66),e P "less" 274 (.ref 73),e P "not_less_witness" 282 (.ref 80),e P "__static_attributes__" 288 (.ref 81)] 13),#[]⟩,
tu [],
fi [(.int 8 0),(.int 4 0),(.ref 37),(.int 31 0),(.int 4 0),(.ref 44),(.int 35 0),(.int 4 0),(.ref 51),(.int 42 0),(.int 4 0),(.ref 58),(.int 45 0),(.int 4 0),(.ref 65),(.int 48 0),(.int 4 0),(.ref 72),(.int 59 0),(.int 4 0),(.ref 79)],
co "Whitespace" "Whitespace" "/claim/cut.py" 198 5 0 0 181 201 (.bool false) [(.ref 25),(.ref 26),.none,.none,.none,.none],
⟨(.type "frame"),none,.plain,#[(some (.ref 27)),(some (.ref 3)),(some (.ref 24)),none,(some (s "cpy313.tabnanny" 194)),none,(some (.ref 0))]⟩,
⟨(.type "str_ascii_iterator"),none,(.fields #[.none,(.int 2 0)]),#[]⟩,
tu [],
⟨(.type "StopIteration"),none,(.fields #[(.ref 30),.none,.none,.none,(.bool false),.none]),#[]⟩,
tu [],
fi [],
tu [(s "self" 216),(s "ws" 217),(s "S" 218),(s "T" 219),(s "count" 220),(s "b" 221),(s "n" 222),(s "nt" 223),(s "ch" 224)],
tu [],
⟨.none,none,(.func (fo (j2 2 1) "__init__" "Whitespace.__init__" 0 .none .none .none)),#[]⟩,
co "__init__" "Whitespace.__init__" "/claim/cut.py" 213 8 2 3 181 225 (.bool true) [(.ref 32),(.ref 33),.none,(.ref 34),(.ref 35),(.ref 36)],
⟨(.type "function"),none,(.func (fo (j2 2 1) "__init__" "Whitespace.__init__" 3 .none (s "cpy313.tabnanny" 194) (.ref 37))),#[]⟩,
tu [],
fi [],
tu [(s "self" 231),(s "count" 232),(s "trailing" 233)],
tu [],
⟨.none,none,(.func (fo (j2 2 2) "longest_run_of_spaces" "Whitespace.longest_run_of_spaces" 0 .none .none .none)),#[]⟩,
co "longest_run_of_spaces" "Whitespace.longest_run_of_spaces" "/claim/cut.py" 228 31 1 3 181 234 (.bool true) [(.ref 39),(.ref 40),.none,(.ref 41),(.ref 42),(.ref 43)],
⟨(.type "function"),none,(.func (fo (j2 2 2) "longest_run_of_spaces" "Whitespace.longest_run_of_spaces" 3 .none (s "cpy313.tabnanny" 194) (.ref 44))),#[]⟩,
tu [],
fi [],
tu [(s "self" 240),(s "tabsize" 241),(s "count" 242),(s "trailing" 243),(s "il" 244),(s "i" 245)],
tu [],
⟨.none,none,(.func (fo (j2 2 3) "indent_level" "Whitespace.indent_level" 0 .none .none .none)),#[]⟩,
co "indent_level" "Whitespace.indent_level" "/claim/cut.py" 237 35 2 3 181 246 (.bool true) [(.ref 46),(.ref 47),.none,(.ref 48),(.ref 49),(.ref 50)],
⟨(.type "function"),none,(.func (fo (j2 2 3) "indent_level" "Whitespace.indent_level" 3 .none (s "cpy313.tabnanny" 194) (.ref 51))),#[]⟩,
tu [],
fi [],
tu [(s "self" 252),(s "other" 253)],
tu [],
⟨.none,none,(.func (fo (j2 2 4) "equal" "Whitespace.equal" 0 .none .none .none)),#[]⟩,
co "equal" "Whitespace.equal" "/claim/cut.py" 249 42 2 3 181 254 (.bool true) [(.ref 53),(.ref 54),.none,(.ref 55),(.ref 56),(.ref 57)],
⟨(.type "function"),none,(.func (fo (j2 2 4) "equal" "Whitespace.equal" 3 .none (s "cpy313.tabnanny" 194) (.ref 58))),#[]⟩,
tu [],
fi [],
tu [(s "self" 260),(s "other" 261)],
tu [],
⟨.none,none,(.func (fo (j2 2 5) "not_equal_witness" "Whitespace.not_equal_witness" 0 .none .none .none)),#[]⟩,
co "not_equal_witness" "Whitespace.not_equal_witness" "/claim/cut.py" 257 45 2 3 181 262 (.bool true) [(.ref 60),(.ref 61),.none,(.ref 62),(.ref 63),(.ref 64)],
⟨(.type "function"),none,(.func (fo (j2 2 5) "not_equal_witness" "Whitespace.not_equal_witness" 3 .none (s "cpy313.tabnanny" 194) (.ref 65))),#[]⟩,
tu [],
fi [],
tu [(s "self" 268),(s "other" 269),(s "n" 270),(s "ts" 271)],
tu [],
⟨.none,none,(.func (fo (j2 2 6) "less" "Whitespace.less" 0 .none .none .none)),#[]⟩,
co "less" "Whitespace.less" "/claim/cut.py" 265 48 2 3 181 272 (.bool true) [(.ref 67),(.ref 68),.none,(.ref 69),(.ref 70),(.ref 71)],
⟨(.type "function"),none,(.func (fo (j2 2 6) "less" "Whitespace.less" 3 .none (s "cpy313.tabnanny" 194) (.ref 72))),#[]⟩,
tu [],
fi [],
tu [(s "self" 278),(s "other" 279)],
tu [],
⟨.none,none,(.func (fo (j2 2 7) "not_less_witness" "Whitespace.not_less_witness" 0 .none .none .none)),#[]⟩,
co "not_less_witness" "Whitespace.not_less_witness" "/claim/cut.py" 275 59 2 3 181 280 (.bool true) [(.ref 74),(.ref 75),.none,(.ref 76),(.ref 77),(.ref 78)],
⟨(.type "function"),none,(.func (fo (j2 2 7) "not_less_witness" "Whitespace.not_less_witness" 3 .none (s "cpy313.tabnanny" 194) (.ref 79))),#[]⟩,
tu [(s "is_simple" 283),(s "n" 284),(s "norm" 285),(s "nt" 286),(s "raw" 287)],
⟨(.type "dict"),none,(.dict #[e P "__module__" 203 (s "cpy313.tabnanny" 194),e P "__firstlineno__" 207 (.int 5 206),e P "S" 211 (s " " 209),e P "T" 212 (s "\u0009" 210),e P "__init__" 227 (.ref 38),e P "longest_run_of_spaces" 236 (.ref 45),e P "indent_level" 248 (.ref 52),e P "equal" 256 (.ref 59),e P "not_equal_witness" 264 (.ref 66),e P "less" 274 (.ref 73),e P "not_less_witness" 282 (.ref 80),e P "__static_attributes__" 288 (.ref 81),e P "__dict__" 290 (.ref 84),e P "__weakref__" 292 (.ref 85),e P "__doc__" 293 .none] 4),#[]⟩,
⟨(.type "type"),none,(.cls ⟨"Whitespace",[(.type "object")],[(.ref 83),(.type "object")],82,"Whitespace",true,[],[],false,none,false⟩),#[none,none,(some (s "Whitespace" 196)),(some (s "Whitespace" 204)),(some (.builtin "object.__new__")),(some (.bool true))]⟩,
⟨(.type "getset_descriptor"),none,(.fields #[(s "__dict__" 289),(.ref 83),(.builtin "function.__dict__"),(.builtin "function.__dict__#set")]),#[]⟩,
⟨(.type "getset_descriptor"),none,(.fields #[(s "__weakref__" 291),(.ref 83),(.builtin "ExceptionGroup.__weakref__"),.none]),#[]⟩,
⟨(.type "super"),none,(.fields #[(.ref 83),(.ref 83),(.ref 83)]),#[]⟩,
⟨(.type "builtin_function_or_method"),none,(.fields #[(.builtin "object.__init_subclass__"),(.ref 83)]),#[]⟩,
tu [],
⟨(.type "builtin_function_or_method"),none,(.fields #[(.builtin "type.__prepare__"),(.type "type")]),#[]⟩,
⟨(.type "dict"),none,(.dict #[e P "__module__" 311 (s "cpy313.graphlib" 296),e P "__qualname__" 313 (s "_NodeInfo" 312),e P "__firstlineno__" 315 (.int 64 314),e P "__slots__" 319 (.ref 95),e P "__init__" 327 (.ref 102),e P "__static_attributes__" 331 (.ref 103)] 6),#[]⟩,
tu [],
fi [(.int 67 0),(.int 4 0),(.ref 101)],
co "_NodeInfo" "_NodeInfo" "/claim/cut.py" 306 64 0 0 181 309 (.bool false) [(.ref 91),(.ref 92),.none,.none,.none,.none],
⟨(.type "frame"),none,.plain,#[(some (.ref 93)),(some (.ref 3)),(some (.ref 90)),none,(some (s "cpy313.graphlib" 296)),none,(some (.ref 0))]⟩,
tu [(s "node" 316),(s "npredecessors" 317),(s "successors" 318)],
tu [],
fi [],
tu [(s "self" 323),(s "node" 324)],
tu [],
⟨.none,none,(.func (fo (j2 6 1) "__init__" "_NodeInfo.__init__" 0 .none .none .none)),#[]⟩,
co "__init__" "_NodeInfo.__init__" "/claim/cut.py" 320 67 2 3 181 325 (.bool true) [(.ref 96),(.ref 97),.none,(.ref 98),(.ref 99),(.ref 100)],
⟨(.type "function"),none,(.func (fo (j2 6 1) "__init__" "_NodeInfo.__init__" 3 .none (s "cpy313.graphlib" 296) (.ref 101))),#[]⟩,
tu [(s "node" 328),(s "npredecessors" 329),(s "successors" 330)],
⟨(.type "list"),none,(.seq #[(s "node" 316),(s "npredecessors" 317),(s "successors" 318)] 1),#[]⟩,
⟨(.type "dict"),none,(.dict #[e P "__module__" 311 (s "cpy313.graphlib" 296),e P "__firstlineno__" 315 (.int 64 314),e P "__slots__" 319 (.ref 95),e P "__init__" 327 (.ref 102),e P "__static_attributes__" 331 (.ref 103),e P "node" 333 (.ref 107),e P "npredecessors" 335 (.ref 108),e P "successors" 337 (.ref 109),e P "__doc__" 338 .none] 5),#[]⟩,
⟨(.type "type"),none,(.cls ⟨"_NodeInfo",[(.type "object")],[(.ref 106),(.type "object")],105,"_NodeInfo",false,["node","npredecessors","successors"],[],false,none,false⟩),#[none,none,(some (s "_NodeInfo" 304)),(some (s "_NodeInfo" 312)),(some (.builtin "object.__new__")),(some (.bool false))]⟩,
⟨(.type "member_descriptor"),none,(.fields #[(s "node" 332),(.ref 106),(.builtin "proto.slot"),(.builtin "proto.slot#set"),(.int 2 0)]),#[]⟩,
⟨(.type "member_descriptor"),none,(.fields #[(s "npredecessors" 334),(.ref 106),(.builtin "proto.slot"),(.builtin "proto.slot#set"),(.int 1 0)]),#[]⟩,
⟨(.type "member_descriptor"),none,(.fields #[(s "successors" 336),(.ref 106),(.builtin "proto.slot"),(.builtin "proto.slot#set"),(.int 0 0)]),#[]⟩,
⟨(.type "super"),none,(.fields #[(.ref 106),(.ref 106),(.ref 106)]),#[]⟩,
⟨(.type "builtin_function_or_method"),none,(.fields #[(.builtin "object.__init_subclass__"),(.ref 106)]),#[]⟩,
tu [(.type "ValueError")],
⟨(.type "builtin_function_or_method"),none,(.fields #[(.builtin "type.__prepare__"),(.type "type")]),#[]⟩,
⟨(.type "dict"),none,(.dict #[e P "__module__" 348 (s "cpy313.graphlib" 296),e P "__qualname__" 350 (s "CycleError" 349),e P "__firstlineno__" 352 (.int 71 351),e P "__static_attributes__" 353 (.ref 119)] 4),#[]⟩,
tu [],
fi [],
co "CycleError" "CycleError" "/claim/cut.py" 343 71 0 0 181 346 (.bool false) [(.ref 115),(.ref 116),.none,.none,.none,.none],
⟨(.type "frame"),none,.plain,#[(some (.ref 117)),(some (.ref 3)),(some (.ref 114)),none,(some (s "cpy313.graphlib" 296)),none,(some (.ref 0))]⟩,
tu [],
⟨(.type "dict"),none,(.dict #[e P "__module__" 348 (s "cpy313.graphlib" 296),e P "__firstlineno__" 352 (.int 71 351),e P "__static_attributes__" 353 (.ref 119),e P "__weakref__" 355 (.ref 122),e P "__doc__" 356 .none] 3),#[]⟩,
⟨(.type "type"),none,(.cls ⟨"CycleError",[(.type "ValueError")],[(.ref 121),(.type "ValueError"),(.type "Exception"),(.type "BaseException"),(.type "object")],120,"CycleError",true,[],[],false,none,false⟩),#[(some (.ref 112)),none,(some (s "CycleError" 341)),(some (s "CycleError" 349)),(some (.builtin "ValueError.__new__")),(some (.bool true))]⟩,
⟨(.type "getset_descriptor"),none,(.fields #[(s "__weakref__" 354),(.ref 121),(.builtin "ExceptionGroup.__weakref__"),.none]),#[]⟩,
⟨(.type "super"),none,(.fields #[(.ref 121),(.ref 121),(.ref 121)]),#[]⟩,
⟨(.type "builtin_function_or_method"),none,(.fields #[(.builtin "object.__init_subclass__"),(.ref 121)]),#[]⟩,
tu [],
⟨(.type "builtin_function_or_method"),none,(.fields #[(.builtin "type.__prepare__"),(.type "type")]),#[]⟩,
⟨(.type "dict"),none,(.dict #[e P "__module__" 366 (s "cpy313.graphlib" 296),e P "__qualname__" 368 (s "TopologicalSorter" 367),e P "__firstlineno__" 370 (.int 73 369),e P "__init__" 380 (.ref 139),e P "_get_nodeinfo" 389 (.ref 146),e P "add" 401 (.ref 153),e P "prepare" 407 (.ref 158),e P "get_ready" 417 (.ref 165),e P "is_active" 424 (.ref 172),e P "__bool__" 431 (.ref 179),e P "done" 445 (.ref 186),e P "_find_cycle" 458 (.ref 193),e P "static_order" 465 (.ref 200),e P "__static_attributes__" 470 (.ref 201)] 14),#[]⟩,
tu [],
fi [(.int 75 0),(.int 4 0),(.ref 138),(.int 84 0),(.int 4 0),(.ref 145),(.int 89 0),(.int 4 0),(.ref 152),(.int 98 0),(.int 4 0),(.ref 157),(.int 106 0),(.int 4 0),(.ref 164),(.int 117 0),(.int 4 0),(.ref 171),(.int 122 0),(.int 4 0),(.ref 178),(.int 125 0),(.int 4 0),(.ref 185),(.int 148 0),(.int 4 0),(.ref 192),(.int 177 0),(.int 4 0),(.ref 199)],
co "TopologicalSorter" "TopologicalSorter" "/claim/cut.py" 361 73 0 0 181 364 (.bool false) [(.ref 128),(.ref 129),.none,.none,.none,.none],
⟨(.type "frame"),none,.plain,#[(some (.ref 130)),(some (.ref 3)),(some (.ref 127)),none,(some (s "cpy313.graphlib" 296)),none,(some (.ref 0))]⟩,
tu [.none],
tu [],
fi [],
tu [(s "self" 374),(s "graph" 375),(s "node" 376),(s "predecessors" 377)],
tu [],
⟨.none,none,(.func (fo (j2 8 0) "__init__" "TopologicalSorter.__init__" 0 .none .none .none)),#[]⟩,
co "__init__" "TopologicalSorter.__init__" "/claim/cut.py" 371 75 2 3 181 378 (.bool true) [(.ref 133),(.ref 134),.none,(.ref 135),(.ref 136),(.ref 137)],
⟨(.type "function"),none,(.func (fo (j2 8 0) "__init__" "TopologicalSorter.__init__" 3 (.ref 132) (s "cpy313.graphlib" 296) (.ref 138))),#[]⟩,
tu [],
fi [],
tu [(s "self" 384),(s "node" 385),(s "result" 386)],
tu [],
⟨.none,none,(.func (fo (j2 8 1) "_get_nodeinfo" "TopologicalSorter._get_nodeinfo" 0 .none .none .none)),#[]⟩,
co "_get_nodeinfo" "TopologicalSorter._get_nodeinfo" "/claim/cut.py" 381 84 2 3 181 387 (.bool true) [(.ref 140),(.ref 141),.none,(.ref 142),(.ref 143),(.ref 144)],
⟨(.type "function"),none,(.func (fo (j2 8 1) "_get_nodeinfo" "TopologicalSorter._get_nodeinfo" 3 .none (s "cpy313.graphlib" 296) (.ref 145))),#[]⟩,
tu [],
fi [],
tu [(s "self" 393),(s "node" 394),(s "predecessors" 395),(s "nodeinfo" 396),(s "pred" 397),(s "pred_info" 398)],
tu [],
⟨.none,none,(.func (fo (j2 8 2) "add" "TopologicalSorter.add" 0 .none .none .none)),#[]⟩,
co "add" "TopologicalSorter.add" "/claim/cut.py" 390 89 2 7 181 399 (.bool true) [(.ref 147),(.ref 148),.none,(.ref 149),(.ref 150),(.ref 151)],
⟨(.type "function"),none,(.func (fo (j2 8 2) "add" "TopologicalSorter.add" 3 .none (s "cpy313.graphlib" 296) (.ref 152))),#[]⟩,
tu [],
fi [],
⟨.none,none,(.func (fo (j2 8 3) "prepare" "TopologicalSorter.prepare" 0 .none .none .none)),#[]⟩,
co "prepare" "TopologicalSorter.prepare" "/claim/cut.py" 402 98 1 3 181 405 (.bool true) [(.ref 154),(.ref 155),.none,.none,.none,(.ref 156)],
⟨(.type "function"),none,(.func (fo (j2 8 3) "prepare" "TopologicalSorter.prepare" 3 .none (s "cpy313.graphlib" 296) (.ref 157))),#[]⟩,
tu [],
fi [],
tu [(s "self" 411),(s "result" 412),(s "n2i" 413),(s "node" 414)],
tu [],
⟨.none,none,(.func (fo (j2 8 4) "get_ready" "TopologicalSorter.get_ready" 0 .none .none .none)),#[]⟩,
co "get_ready" "TopologicalSorter.get_ready" "/claim/cut.py" 408 106 1 3 181 415 (.bool true) [(.ref 159),(.ref 160),.none,(.ref 161),(.ref 162),(.ref 163)],
⟨(.type "function"),none,(.func (fo (j2 8 4) "get_ready" "TopologicalSorter.get_ready" 3 .none (s "cpy313.graphlib" 296) (.ref 164))),#[]⟩,
tu [],
fi [],
tu [(s "self" 421)],
tu [],
⟨.none,none,(.func (fo (j2 8 5) "is_active" "TopologicalSorter.is_active" 0 .none .none .none)),#[]⟩,
co "is_active" "TopologicalSorter.is_active" "/claim/cut.py" 418 117 1 3 181 422 (.bool true) [(.ref 166),(.ref 167),.none,(.ref 168),(.ref 169),(.ref 170)],
⟨(.type "function"),none,(.func (fo (j2 8 5) "is_active" "TopologicalSorter.is_active" 3 .none (s "cpy313.graphlib" 296) (.ref 171))),#[]⟩,
tu [],
fi [],
tu [(s "self" 428)],
tu [],
⟨.none,none,(.func (fo (j2 8 6) "__bool__" "TopologicalSorter.__bool__" 0 .none .none .none)),#[]⟩,
co "__bool__" "TopologicalSorter.__bool__" "/claim/cut.py" 425 122 1 3 181 429 (.bool true) [(.ref 173),(.ref 174),.none,(.ref 175),(.ref 176),(.ref 177)],
⟨(.type "function"),none,(.func (fo (j2 8 6) "__bool__" "TopologicalSorter.__bool__" 3 .none (s "cpy313.graphlib" 296) (.ref 178))),#[]⟩,
tu [],
fi [],
tu [(s "self" 435),(s "nodes" 436),(s "n2i" 437),(s "node" 438),(s "nodeinfo" 439),(s "stat" 440),(s "successor" 441),(s "successor_info" 442)],
tu [],
⟨.none,none,(.func (fo (j2 8 7) "done" "TopologicalSorter.done" 0 .none .none .none)),#[]⟩,
co "done" "TopologicalSorter.done" "/claim/cut.py" 432 125 1 7 181 443 (.bool true) [(.ref 180),(.ref 181),.none,(.ref 182),(.ref 183),(.ref 184)],
⟨(.type "function"),none,(.func (fo (j2 8 7) "done" "TopologicalSorter.done" 3 .none (s "cpy313.graphlib" 296) (.ref 185))),#[]⟩,
tu [],
fi [],
tu [(s "self" 449),(s "n2i" 450),(s "stack" 451),(s "itstack" 452),(s "seen" 453),(s "node2stacki" 454),(s "node" 455)],
tu [],
⟨.none,none,(.func (fo (j2 8 8) "_find_cycle" "TopologicalSorter._find_cycle" 0 .none .none .none)),#[]⟩,
co "_find_cycle" "TopologicalSorter._find_cycle" "/claim/cut.py" 446 148 1 3 181 456 (.bool true) [(.ref 187),(.ref 188),.none,(.ref 189),(.ref 190),(.ref 191)],
⟨(.type "function"),none,(.func (fo (j2 8 8) "_find_cycle" "TopologicalSorter._find_cycle" 3 .none (s "cpy313.graphlib" 296) (.ref 192))),#[]⟩,
tu [],
fi [],
tu [(s "self" 462)],
tu [],
⟨.none,none,(.func (fo (j2 8 9) "static_order" "TopologicalSorter.static_order" 0 .none .none .none)),#[]⟩,
co "static_order" "TopologicalSorter.static_order" "/claim/cut.py" 459 177 1 3 181 463 (.bool true) [(.ref 194),(.ref 195),.none,(.ref 196),(.ref 197),(.ref 198)],
⟨(.type "function"),none,(.func (fo (j2 8 9) "static_order" "TopologicalSorter.static_order" 3 .none (s "cpy313.graphlib" 296) (.ref 199))),#[]⟩,
tu [(s "_nfinished" 466),(s "_node2info" 467),(s "_npassedout" 468),(s "_ready_nodes" 469)],
⟨(.type "dict"),none,(.dict #[e P "__module__" 366 (s "cpy313.graphlib" 296),e P "__firstlineno__" 370 (.int 73 369),e P "__init__" 380 (.ref 139),e P "_get_nodeinfo" 389 (.ref 146),e P "add" 401 (.ref 153),e P "prepare" 407 (.ref 158),e P "get_ready" 417 (.ref 165),e P "is_active" 424 (.ref 172),e P "__bool__" 431 (.ref 179),e P "done" 445 (.ref 186),e P "_find_cycle" 458 (.ref 193),e P "static_order" 465 (.ref 200),e P "__static_attributes__" 470 (.ref 201),e P "__dict__" 472 (.ref 204),e P "__weakref__" 474 (.ref 205),e P "__doc__" 475 .none] 4),#[]⟩,
⟨(.type "type"),none,(.cls ⟨"TopologicalSorter",[(.type "object")],[(.ref 203),(.type "object")],202,"TopologicalSorter",true,[],[],false,none,false⟩),#[none,none,(some (s "TopologicalSorter" 359)),(some (s "TopologicalSorter" 367)),(some (.builtin "object.__new__")),(some (.bool true))]⟩,
⟨(.type "getset_descriptor"),none,(.fields #[(s "__dict__" 471),(.ref 203),(.builtin "function.__dict__"),(.builtin "function.__dict__#set")]),#[]⟩,
⟨(.type "getset_descriptor"),none,(.fields #[(s "__weakref__" 473),(.ref 203),(.builtin "ExceptionGroup.__weakref__"),.none]),#[]⟩,
⟨(.type "super"),none,(.fields #[(.ref 203),(.ref 203),(.ref 203)]),#[]⟩,
⟨(.type "builtin_function_or_method"),none,(.fields #[(.builtin "object.__init_subclass__"),(.ref 203)]),#[]⟩,
tu [],
fi [],
⟨.none,none,(.func (fo (bG bA 10) "_law_best" "_law_best" 0 .none .none .none)),#[]⟩,
co "_law_best" "_law_best" "/claim/cut.py" 480 180 1 3 181 483 (.bool true) [(.ref 208),(.ref 209),.none,.none,.none,(.ref 210)],
⟨(.type "function"),none,(.func (fo (bG bA 10) "_law_best" "_law_best" 3 .none (s "law_mr0354_03" 478) (.ref 211))),#[]⟩,
tu [],
fi [],
⟨.none,none,(.func (fo (bG bA 11) "_law_kept" "_law_kept" 0 .none .none .none)),#[]⟩,
co "_law_kept" "_law_kept" "/claim/cut.py" 486 188 1 3 181 489 (.bool true) [(.ref 213),(.ref 214),.none,.none,.none,(.ref 215)],
⟨(.type "function"),none,(.func (fo (bG bA 11) "_law_kept" "_law_kept" 3 .none (s "law_mr0354_03" 478) (.ref 216))),#[]⟩,
tu [],
fi [],
⟨.none,none,(.func (fo (bG bA 12) "_law_ways" "_law_ways" 0 .none .none .none)),#[]⟩,
co "_law_ways" "_law_ways" "/claim/cut.py" 492 204 2 3 181 495 (.bool true) [(.ref 218),(.ref 219),.none,.none,.none,(.ref 220)],
⟨(.type "function"),none,(.func (fo (bG bA 12) "_law_ways" "_law_ways" 3 .none (s "law_mr0354_03" 478) (.ref 221))),#[]⟩,
tu [],
fi [],
tu [(s "text" 501),(s "size" 502),(s "column" 503),(s "sign" 504)],
tu [],
⟨.none,none,(.func (fo (bG bA 13) "_law_column" "_law_column" 0 .none .none .none)),#[]⟩,
co "_law_column" "_law_column" "/claim/cut.py" 498 207 2 3 181 505 (.bool true) [(.ref 223),(.ref 224),.none,(.ref 225),(.ref 226),(.ref 227)],
⟨(.type "function"),none,(.func (fo (bG bA 13) "_law_column" "_law_column" 3 .none (s "law_mr0354_03" 478) (.ref 228))),#[]⟩,
tu [],
fi [],
⟨.none,none,(.func (fo (bG bA 14) "_law_bag" "_law_bag" 0 .none .none .none)),#[]⟩,
co "_law_bag" "_law_bag" "/claim/cut.py" 508 212 1 3 181 511 (.bool true) [(.ref 230),(.ref 231),.none,.none,.none,(.ref 232)],
⟨(.type "function"),none,(.func (fo (bG bA 14) "_law_bag" "_law_bag" 3 .none (s "law_mr0354_03" 478) (.ref 233))),#[]⟩,
tu [],
fi [],
⟨.none,none,(.func (fo (bG bA 15) "_law_due" "_law_due" 0 .none .none .none)),#[]⟩,
co "_law_due" "_law_due" "/claim/cut.py" 514 214 2 3 181 517 (.bool true) [(.ref 235),(.ref 236),.none,.none,.none,(.ref 237)],
⟨(.type "function"),none,(.func (fo (bG bA 15) "_law_due" "_law_due" 3 .none (s "law_mr0354_03" 478) (.ref 238))),#[]⟩,
tu [],
fi [],
⟨.none,none,(.func (fo (bG bA 16) "law" "law" 0 .none .none .none)),#[]⟩,
co "law" "law" "/claim/cut.py" 520 222 1 3 181 523 (.bool true) [(.ref 240),(.ref 241),.none,.none,.none,(.ref 242)],
⟨(.type "function"),none,(.func (fo (bG bA 16) "law" "law" 3 .none (s "law_mr0354_03" 478) (.ref 243))),#[]⟩]
noncomputable def DU:List Obj→Nat→Option Obj
 | [],_=>none
 |o::_,0=>some o
 |_::l,n+1=>DU l n
noncomputable def bt(l:List Obj):Nat→Nat→Nat→BT
 |0,_,_=>.nil
 |n+1,a,b=>match DU l b with
  |none=>.nil
  |some o=>.node o (bt l n (2*a) (a+b)) (bt l n (2*a) (2*a+b))
noncomputable def ob(P:mr)(i:Nat):Obj:=match DU (O P) i with|some o=>o|none=>default
noncomputable def fdO(o:Obj):FuncData:=match o.data with| .func f=>f|_=>default
noncomputable def T0(P:mr):BT:=bt [boot_o_0 P,boot_o_1 P,boot_o_2 P,boot_o_3 P,boot_o_4 P,boot_o_5 P,boot_o_6 P,boot_o_7 P,boot_o_8 P,boot_o_9 P,boot_o_10 P,tu [],FI P,ob P 13,ob P 14] 9 1 0
noncomputable def T1(P:mr):BT:=bt (O P) 9 1 0
noncomputable def K(P:mr):Frag:=(aV 245).zip (O P)
abbrev rw:=PySem.Challenge.rw_mr0354_03
abbrev row:OpenRow:=Au rw
abbrev pr:Program:=(OpenRow.toRowW (Au rw)).1
noncomputable def env:Env:={scope:=pr.main.scope,locals:=mainNs,globals:=mainNs,cells:=[],code:=.ref 13,frame:=some 14}
noncomputable def cd:Code:=.body (behindTheImports pr) env
noncomputable def S0(w:c8)(os:BG):SharedT:={tree:=T0 w.params,n:=15,life:={},gens:= #[],drawn:={},toks:=187,os:=os}
noncomputable def S1(w:c8)(os:BG):SharedT:={tree:=T1 w.params,n:=245,life:={},gens:= #[],drawn:={},toks:=526,os:=os}
noncomputable def H1(P:mr):Heap:=absHeap (T1 P) 245 {}
noncomputable abbrev p0:Pos:=⟨0,0,0,0⟩
noncomputable abbrev p1:Pos:=⟨222,0,250,15⟩
noncomputable abbrev BD:Option Value:=some (.ref 6)
theorem D4:OpenLaw.wellSaid rw=true:=by
 rw[Fast.te9446332074065402090];kernel_rfl
theorem pre:∀w:c8,(λos=>topGo treeTable pr w 11 BD 12 ⟨kP w.params,#[],boot_drawn,boot_toks,os⟩ (topStub pr))=λos=>some ((S0 w os).abs,⟨denote treeTable cd,cd,p0,[topFrame p0]⟩):=by
 intro w;rw[Fast.te15667345088766844465,dn,Fast.te11892475500146522536];kernel_rfl
theorem CE:∀w:c8,(λos=>segRun treeTable pr w 11 BD 1 1 (S0 w os).abs (blockOf (behindTheImports pr) env cd p0 [topFrame p0]))=λos=>some (.next,(S0 w os).abs,cd,p0):=by
 intro w;rw[Fast.te14374325043358763698,dn];kernel_rfl
noncomputable def B6(w:c8):Prop:=(λos=>segRunT treeTable pr w 11 BD 1 2000 (S0 w os) (piecesOf (behindTheImports pr) env cd p0 [topFrame p0]))=λos=>some (.next,S1 w os,cd,p1)
theorem Cr(w:c8):B6 (w.withFollow "special-get-raises" false):=by
 unfold B6;rw[pM,dn];kernel_rfl
theorem Cq(w:c8):B6 (w.withFollow "special-get-raises" true):=by
 unfold B6;rw[pM,dn];kernel_rfl
theorem fin:∀w:c8,(λos=>topRun treeTable pr w 11 BD 2 (S1 w os).abs ⟨doneF .next,cd,p1,[topFrame p0]⟩)=λos=>some ⟨H1 w.params,#[],{},526,os⟩:=by
 intro w;rw[Fast.te14082659384304107361,dn];kernel_rfl
theorem run(w:c8)(os:BG):topRun treeTable pr w 11 BD (Ck 12 (Ck 1 (Ck 2000 2))) ⟨kP w.params,#[],boot_drawn,boot_toks,os⟩ (topStub pr)=some ⟨H1 w.params,#[],{},526,os⟩:=
 go_top (congrFun (pre w) os) (piece_block (congrFun (CE w) os) (by
  have h:=piece_app (rest:=[]) (segRun_of (congrFun (byRow2 "special-get-raises" (P:=B6) Cr Cq w) os)) (piece_nil (congrFun (fin w) os))
  rw[aN]at h
  exact h))
noncomputable def q:Program:=view pr [0,2,4,5,6,7,8,10,11,12,13,14,15,16]
noncomputable def tZ:List Str:=[ag "_NodeInfo",ag "Whitespace"]
noncomputable abbrev Xt:af→Bool:=λs=>xlAt q [] s&&recOk (RowW.records row.toRowW) s
noncomputable abbrev Yf(s:af):Heap×Nat:=(s.heap,s.toks)
noncomputable abbrev Ya(w:c8):Heap×Nat:=(H1 w.params,526)
theorem size:∀w:c8,((kP w.params).isNs mainGlobals&&(#[]:Array GenState).size==0,(kP w.params).objs.size,(kP w.params).nsMap mainGlobals "__annotations__")=(true,11,BD):=by
 intro w;rw[Fast.te8920871248978507458];kernel_rfl
theorem looks1:∀w:c8,(λos=>(staticsOk (importedModules pr.main.body) (kP w.params) (H1 w.params)&&namesBound pr (H1 w.params)&&gensDone ⟨H1 w.params,#[],{},526,os⟩&&laidKept (kP w.params) (H1 w.params)))=λz=>true:=by
 intro w;rw[qo];kernel_rfl
theorem looks2:∀w:c8,(λos=>openSeen q tZ (importedModules pr.main.body) Xt true ⟨H1 w.params,#[],{},526,os⟩)=λz=>openGood q tZ:=by
 intro w;rw[Fast.te4187177175401517315,qo];kernel_rfl
theorem left:LeftO pr q tZ Xt Yf Ya 3606:=
 LeftO.of_pieces (boot_open rfl (by decide) λs=>rfl) size run (by decide) λw=>funext λos=>Fi (congrFun (looks1 w) os) (Fi (congrFun (looks2 w) os) rfl)
theorem kin(P:mr):((K P).map (·.1)).map (H1 P).get?=(K P).map λp=>some p.2:=by kernel_rfl
theorem kx{w:c8}{s₀:af}(h:Yf s₀=Ya w):(K w.params).In s₀.heap:=by
 have:=congrArg Prod.fst h
 rw[show s₀.heap=H1 w.params from this]
 exact Frag.in_of rfl (kin _)
noncomputable def dl:DefRec:={name:= "law",params:=An (bG bA 16),body:=cP (bG bA 16),scope:=k7 (bG bA 16),pos:=D5 (bG bA 16)}
theorem Ed:defOf q row.name=some (dl,[]):=by kernel_rfl
theorem Ec:row.prog.theDef row.name=some (dl.params,dl.body,dl.scope):=by kernel_rfl
theorem hkw:kwWritten? dl.params.kwonlyargs dl.params.kw_defaults=some []:=by kernel_rfl
theorem Eb:row.toRowW.promised:=by w_witness2
theorem holds(call:WalkX q tZ (XL q []) Yf Ya row.toRowW dl [] λf vs=>PySem.call f vs):rw.Holds:=
 holds_law D4 λh=>holds_openX left (λs e=>xl_of s (uR.mp e).1) XL.keeps Ed Ec hkw (λs e=>recFacts_of (uR.mp e).2) rfl h (by decide+kernel) ⟨rfl,rfl,rfl,rfl,rfl,by decide+kernel⟩ Eb call
end Mine.Hd
namespace Mine
variable{w:c8}{H:Heap}{K:Frag}{ex:Nat→Value}{mg mb:Str→Option Value}
noncomputable def kQ:Nat→Value|0=>.type "StopIteration" |_=>.ref 121
theorem Cw(F:im w H K mg mb):OkK (P1 w H K) (cj kQ) 9 (.ref 244) wD:=by
 have h_NodeInfo_init:=nF (ex:=kQ) F rfl rfl
 have h_TS__get_nodeinfo:=lw (ex:=kQ) F rfl rfl h_NodeInfo_init
 have h_TS_add:=xT (ex:=kQ) F rfl rfl h_TS__get_nodeinfo
 have h_TS_init3:=tM (ex:=kQ) F rfl rfl h_TS_add
 have h_TS__find_cycle:=mX (ex:=kQ) F rfl rfl
 have h_TS_prepare:=qT (ex:=kQ) F rfl rfl h_TS__find_cycle
 have h_TS_get_ready:=pd (ex:=kQ) F rfl rfl
 have h_TS_is_active:=pc (ex:=kQ) F rfl rfl
 have h_TS_done:=vt (ex:=kQ) F rfl rfl
 have h_Whitespace_init:=me (ex:=kQ) F rfl rfl
 have h_Whitespace_longest_run_of_spaces:=fM (ex:=kQ) F rfl rfl
 have h_Whitespace_indent_level:=iN (ex:=kQ) F rfl rfl
 have h_Whitespace_less:=md (ex:=kQ) F rfl rfl h_Whitespace_indent_level h_Whitespace_longest_run_of_spaces
 have h_Whitespace_equal:=lu (ex:=kQ) F rfl rfl
 have h_law_best:=tL (ex:=kQ) F rfl rfl h_Whitespace_equal h_Whitespace_less
 have h_law_kept:=tK (ex:=kQ) F rfl rfl h_TS_init3 h_TS_done h_TS_get_ready h_TS_is_active h_TS_prepare h_Whitespace_init h_law_best
 have w0:OkK (P1 w H K) (cj kQ) 1 (.ref 222) (cU 0):=λz z z z z z z z z z z z h=>h.elim
 have w1:OkK (P1 w H K) (cj kQ) 2 (.ref 222) (cU 1):=iC (ex:=kQ) F rfl rfl (by decide) w0
 have w2:OkK (P1 w H K) (cj kQ) 3 (.ref 222) (cU 2):=iC (ex:=kQ) F rfl rfl (by decide) w1
 have w3:OkK (P1 w H K) (cj kQ) 4 (.ref 222) (cU 3):=iC (ex:=kQ) F rfl rfl (by decide) w2
 have w4:OkK (P1 w H K) (cj kQ) 5 (.ref 222) (cU 4):=iC (ex:=kQ) F rfl rfl (by decide) w3
 have w5:OkK (P1 w H K) (cj kQ) 6 (.ref 222) (cU 5):=iC (ex:=kQ) F rfl rfl (by decide) w4
 have h_law_ways:=w5
 have h_law_column:=qS (ex:=kQ) F rfl rfl
 have h_law_bag:=vr (ex:=kQ) F rfl rfl
 have h_law_due:=vq (ex:=kQ) F rfl rfl h_law_bag h_law_column
 have h_law:=Cv (ex:=kQ) F rfl rfl h_Whitespace_init h_Whitespace_equal h_Whitespace_indent_level h_Whitespace_less h_law_bag h_law_due h_law_kept h_law_ways
 exact h_law
end Mine
namespace Mine
open PySem PySem.W PySem.W.X PySem.Calls PyProof.Rows PySem.W.ZRun
theorem zr{R:WRecords}{cl:Str→Option Addr}{P:mr}{ord:List DictEntry→List DictEntry}:∀(ns:List Int)(s:af)(r:List Value×af),layAllW R cl P ord (ofPys (ns.map jQ)) s=some r→fh r.1 ns:=by
 intro xs_
 induction xs_ with
 |nil=>
  intro s r e
  have:layAllW R cl P ord (ofPys (fO jQ [])) s=some ([],s):=by simp[ofPys,layAllW]
  rw[this]at e
  cases e;exact .nil
 |cons n ns ih=>
  intro s r e
  simp only[ao,ofPys,ofPy,layAllW,layW]at e
  cases q:layAllW R cl P ord (ofPys (fO jQ ns)) {s with toks:=s.toks+1}with
  |none=>rw[q]at e;cases e
  |some r'=>
   rw[q]at e
   cases e
   exact .cons _ _ (ih {s with toks:=s.toks+1} r' q)
theorem qP{R:WRecords}{w:c8}{s₀ s₁:af}{ns:List Int}{a:Addr}{as:List Addr}(L:Laid R w s₀ s₁ [ofPy (PyData.list (ns.map jQ))] [.ref a] as):∃vs,s₁.heap.PlainList a vs∧fh vs.toList ns:=by
 obtain⟨ord,_,e⟩:=L.laid
 simp only[ofPy,layAllW,layW]at e
 cases q:layAllW R (classAt s₀.heap) w.params ord (ofPys (fO jQ ns)) s₀ with
 |none=>rw[q]at e;cases e
 |some r=>
  rw[q]at e
  have hh:=zr ns s₀ r q
  simp only[cO,pC,jp,FV]at e
  obtain⟨⟨ea,_⟩,es⟩:=e
  rw[←es,←ea]
  refine⟨r.1.toArray,⟨_,aq _ rfl⟩,by simpa using hh⟩
theorem r9{P:cH}{F:Addr→Prop}{h:Heap}:∀{vs:List Value}{ns:List Int},fh vs ns→VRs P.nm F h (ns.map .int) vs
 |_,_,.nil=>by simp[VRse]
 |_,_,.cons n t r=>by simp only[ao,VRse];exact⟨_,_,rfl,vInt,r9 r⟩
theorem Ee{P:cH}{ex:Nat→Value}{d:Nat}{f:Value}{Dc:DC}(h:OkK P (cj ex) d f Dc)(hd:d≤100){s₁:af}(hH:P.H₀=s₁.heap)(hg:s₁.gens= #[]){a:Addr}{vs:Array Value}{ns:List Int}(hpl:s₁.heap.PlainList a vs)(hi:fh vs.toList ns)
 (hlaw:Dc [.lst (ns.map .int)] (λv y=>v= .bool true) noXA (λy=>ac)){c:ClaimW}{cl:Str→Option Addr}{mean:ExcName→Option Value}{args:List WData}(hr:∀cls,c.raises args cls=false)(hp:c.post args (.bool true) args=true):
 wpAny P.M callerA (call f [.ref a]) (λv s'=>GoodWG c cl mean args s₁ (.ok (.ret v)) s') (λe s'=>GoodWG c cl mean args s₁ (.error e) s') s₁:=by
 have ok:HeapOk P no1 (λy=>ac) s₁:=⟨λy y e=>by(cases e),λy e=>absurd rfl e,λb o e=>by rw[←hH];exact e,λy e=>absurd rfl e,λy e=>e.elim,λy e=>e.elim,hg⟩
 have rm:dY d callerA:=⟨bc (dX hd 301) (by decide:301+100<1000),bc (cB (dX (fK 8 hd) 4) 128) (by decide:4+8*100+128<9900),λy=>rfl⟩
 have fs:Fs callerA no1 s₁:=⟨[],rfl,λy h=>(nomatch h)⟩
 have r:P.VRs no1 (λy=>ac) s₁.heap [.lst (ns.map .int)] [.ref a]:=by
  simp only[VRse,VRe]
  exact⟨_,_,rfl,⟨a,vs,rfl,⟨rfl,λz=>z⟩,hpl,r9 hi⟩,rfl⟩
 refine wpAny_mono (h.c callerA s₁ _ _ _ no1 _ _ rm fs ok r hlaw) (λv s' hq=>?_) (by rintro e s' ⟨hp',_,_,k,hk,_⟩;exact hk.elim)
 obtain⟨hp',e,ok',u,hu,hv⟩:=hq
 subst hu
 simp only[VRe]at hv
 subst hv
 exact⟨.inl ⟨_,_,[],rfl,hr,ReadsW.bool true,hp,λy=>⟨List.nodup_nil,λy hm=>(nomatch hm)⟩⟩,.of_keep λb o g=>ok'.base b o (by rw[hH];exact g),e.os,by rw[ok'.gens];exact AllBare.empty⟩
end Mine
namespace Mine
noncomputable def Am(sc:Scope):Bool:=(sc.kind== .function)&& !sc.isGenerator&& !sc.isCoroutine&&decide (sc.names.map (·.1)).Nodup&&sc.names.all λp=>p.2 != .free
structure og(P:cH)(a:Addr)(st:Stmt)(o:Obj)(fd:FuncData):Prop where
 ho:P.H₀.get? a=some o
 hd:o.data= .func fd
 code:P.H₀.CodeRec fd.code fd.qualname
 hb:fd.body= .stmts (cP st)
 hs:fd.scope=k7 st
 cl:fd.closure=[]
 gl:fd.globals=mainGlobals
 bl:fd.builtins=builtinsNs
 ck:Am (k7 st)=true
theorem og.facts{P:cH}{a:Addr}{st:Stmt}{o:Obj}{fd:FuncData}(r:og P a st o fd):lU P a fd (cP st):=by
 have ck:=r.ck
 unfold Am at ck
 simp only[b6,beq_iff_eq,cE,decide_eq_true_eq]at ck
 obtain⟨⟨⟨⟨h1,h2⟩,h3⟩,h4⟩,h5⟩:=ck
 refine⟨⟨o,r.ho,r.hd⟩,r.code,r.hb,r.cl,r.gl,r.bl,by rw[r.hs];exact h1,by rw[r.hs];exact h2,by rw[r.hs];exact h3,by rw[r.hs];exact h4,λn h=>?_⟩
 rw[r.hs]at h
 have:=b4.mp h5 _ h
 simp at this
theorem FnOk.pos1{P:cH}{a:Addr}{st:Stmt}{o:Obj}{fd:FuncData}{i:Nat}(r:og P a st o fd)(h:∀x,bindArgs fd ⟨[x],[]⟩=pure [(P.nm i,x)]):FnOk P a st (bdPos [i]):=
 ⟨fd,r.facts,r.hs,BindOk.pos λxs hx=>by obtain⟨x,rfl⟩:=sB.mp hx;exact h x⟩
theorem FnOk.pos2{P:cH}{a:Addr}{st:Stmt}{o:Obj}{fd:FuncData}{i j:Nat}(r:og P a st o fd)(h:∀x y,bindArgs fd ⟨[x,y],[]⟩=pure [(P.nm i,x),(P.nm j,y)]):FnOk P a st (bdPos [i,j]):=
 ⟨fd,r.facts,r.hs,BindOk.pos λxs hx=>by cases xs with|nil=>cases hx|cons x t=>obtain⟨y,rfl⟩:=sB.mp (ql hx);exact h x y⟩
theorem FnOk.star1{P:cH}{a:Addr}{st:Stmt}{o:Obj}{fd:FuncData}{i j:Nat}(r:og P a st o fd)(h:∀x rest,bindArgs fd ⟨x::rest,[]⟩=newTuple rest>>= λt=>pure [(P.nm i,x),(P.nm j,t)]):FnOk P a st (kE i j):=
 ⟨fd,r.facts,r.hs,BindOk.star1 h⟩
theorem FnOk.star2{P:cH}{a:Addr}{st:Stmt}{o:Obj}{fd:FuncData}{i j k:Nat}(r:og P a st o fd)(h:∀x y rest,bindArgs fd ⟨x::y::rest,[]⟩=newTuple rest>>= λt=>pure [(P.nm i,x),(P.nm j,y),(P.nm k,t)]):FnOk P a st (kD i j k):=
 ⟨fd,r.facts,r.hs,BindOk.star2 h⟩
theorem BindOk.pos2d{P:cH}{mg mb:Str→Option Value}(tp:dG P mg mb){fd:FuncData}{i0 i1:Nat}(hb:∀s x y,P.K.In s.heap→BindsTo s fd ⟨[x,y],[]⟩ [(P.nm i0,x),(P.nm i1,y)]):BindOk P fd (bdPos [i0,i1]):=by
 intro A s hp stk vs xs ps Q E ok r h q
 rcases vs with _|⟨v,_|⟨u,_|⟨w,ws⟩⟩⟩
 ·cases h
 ·cases h
 ·cases h
  obtain⟨y,ys,rfl,p,z,zs,rfl,p2,rfl⟩:=r
  refine hb s y z (tp.kin.keeps ok.base) _ _ _ _ (q _ s.heap (λt t e=>e) ?_)
  exact⟨_,_,rfl,p,_,_,rfl,p2,rfl⟩
 ·cases h
theorem FnOk.pos2d{P:cH}{a:Addr}{st:Stmt}{o:Obj}{fd:FuncData}{i j:Nat}{mg mb:Str→Option Value}(tp:dG P mg mb)(r:og P a st o fd)(h:∀s x y,P.K.In s.heap→BindsTo s fd ⟨[x,y],[]⟩ [(P.nm i,x),(P.nm j,y)]):FnOk P a st (bdPos [i,j]):=
 ⟨fd,r.facts,r.hs,BindOk.pos2d tp h⟩
noncomputable def D3:Option CFound→Tok
 |some (.val (.str _ t))=>t
 |_=>0
theorem wQ{x:Option CFound}{l:List Nat}(h:x=some (.val (.str ⟨l.toArray⟩ (D3 x)))):∃tk,x=some (.val (.str ⟨l.toArray⟩ tk)):=⟨_,h⟩
noncomputable def D2:Option (Option Value)→Tok
 |some (some (.int _ t))=>t
 |_=>0
theorem wS{K:Frag}{h:Heap}{mg:Str→Option Value}{n:Str}{i:Int}(X:K.In h)(G:h.Ns mainGlobals mg)(e:nsIn K mainGlobals n=some (some (.int i (D2 (nsIn K mainGlobals n))))):∃t,mg n=some (.int i t):=⟨_,nJ X G e⟩
theorem FE{a b:Nat}(h:a≤b+1):a<2+b:=ca b 2▸c0 h
theorem AM(a b:Nat):((max a b:Nat):Int)=max (a:Int) b:=by
 by_cases h:a≤b
 ·rw[j0 h,d6 (bI.mpr h)]
 ·rw[kI (fw h),pE (bI.mpr (fw h))]
theorem Ea{z:Int}{n:Nat}(h:0≤z∧z<n):z.toNat<n:=(Int.toNat_lt h.1).mpr h.2
theorem DW{z:Int}(h:0≤z):z=(z.toNat:Int):=(wc h).symm
theorem Cc{a b:Nat}(h:b≤a):((a:Int) - b)=((a - b:Nat):Int):=(Int.ofNat_sub h).symm
theorem rin{j t n:Nat}(h:t≤j∧j<t+(n - t)):j<n:=by
 obtain⟨k,e⟩:=j1 h.1
 rw[e]at h⊢
 exact ca k t▸Nat.add_lt_of_lt_sub (Nat.lt_of_add_lt_add_left h.2)
theorem z0{a b c:Nat}(h:a+b=c)(h2:(c:Int)≤b):a=0:=Nat.eq_zero_of_le_zero (qZ (ae (aT h) (ae (bI.mp h2) (aT (aW b).symm))))
theorem z1{a b c:Nat}(h:a+b=c)(h2:c=0):a=0:=(mc.mp (h.trans h2)).1
theorem iz(n:Nat):(n:Int)=0↔n=0:=⟨λe=>fe e,λe=>congrArg Int.ofNat e⟩
theorem Eg{x k:Int}(c:¬x - 1=0):1≤x - 1∧x - 1≤k↔1≤x∧x≤k+1:=
 ⟨λh=>⟨dy h.1 (Int.sub_le_self _ (by decide)),Int.le_add_of_sub_right_le h.2⟩,λh=>⟨Int.lt_iff_le_and_ne.mpr ⟨vY h.1,aI c⟩,Int.sub_right_le_of_le_add h.2⟩⟩
theorem Eh{x:Int}{k:Nat}(c:x - 1=0):1≤x∧x≤k+1:=by
 cases Int.sub_eq_zero.mp c;exact⟨lc _,Int.le_add_of_nonneg_left (bk _)⟩
theorem rin2{r t n:Nat}(h:t≤r)(h2:r<n):t≤r∧r<t+(n - t):=⟨h,aA h2 (aT (nv (ae h (dx h2))).symm)⟩
theorem xH(c b:Nat):((max (c - 1) b:Nat):Int)=max ((c:Int) - 1) b:=by
 rw[AM]
 cases c with
 |zero=>exact(d6 (bk b)).trans (d6 (dy (by decide:((0:Nat):Int) - 1≤0) (bk b))).symm
 |succ c=>exact congrArg (λz=>max z (b:Int)) (mV (c:Int) 1).symm
theorem zf(a b:Nat):max (a:Int) (b:Int)+1=((max a b+1:Nat):Int):=congrArg (·+1) (AM a b).symm
theorem yK{k:Int}(n:Nat)(h:k<0):k<n:=mU h (bk n)
theorem AD{k:Int}{n m:Nat}(h:n≤m)(h2:(m:Int)<k):(n:Int)<k:=yw (bI.mpr h) h2
theorem xA{α:Type}(xs:List α)(x:α)(n:Nat):(xs++[x]).length+n=xs.length+(n+1):=by rw[aw,bN];exact congrArg _ (ca 1 n)
theorem y6{α:Type}{xs:List α}{x:α}{n k:Nat}(h:xs.length+(n+1)≤k):(xs++[x]).length+n≤k:=ae (aT (xA xs x n)) h
section
variable{κ σ:Type}[DecidableEq κ]
noncomputable def kt(acc:List κ):List κ→List κ
 | []=>acc
 |b::L=>kt (if b∈acc then acc else acc++[b]) L
theorem w6{b:κ}{acc L:List κ}(h:b∈acc):kt acc (b::L)=kt acc L:=by rw[kt,if_pos h]
theorem uB{b:κ}{acc L:List κ}(h:b∉acc):kt acc (b::L)=kt (acc++[b]) L:=by rw[kt,if_neg h]
theorem lK:∀(L acc M:List κ),kt acc (L++M)=kt (kt acc L) M
 | [],_,_=>rfl
 |b::L,acc,M=>lK L _ M
theorem lJ{x:κ}:∀(L acc:List κ),x∈kt acc L↔x∈acc∨x∈L
 | [],acc=>⟨.inl,λh=>h.elim id nofun⟩
 |b::L,acc=>by
  refine(lJ L _).trans ?_
  by_cases c:b∈acc
  ·rw[if_pos c,ah]
   exact⟨λh=>h.imp_right .inr,λh=>h.elim .inl λh=>h.elim (λe=>.inl (e▸c)) .inr⟩
  ·rw[if_neg c,az,bS,ah,or_assoc]
theorem lm(q:κ→Bool):∀(L acc:List κ),(kt acc L).filter q=kt (acc.filter q) (L.filter q)
 | [],acc=>rfl
 |b::L,acc=>by
  refine(lm q L _).trans ?_
  by_cases c:b∈acc
  ·rw[if_pos c,aQ]
   split
   ·rename_i hq
    show _=kt (if b∈acc.filter q then _ else _) _
    rw[if_pos (bX.mpr ⟨c,hq⟩)]
   ·rfl
  ·rw[if_neg c,wa,aQ,aQ]
   split
   ·show _=kt (if b∈acc.filter q then _ else _) _
    rw[if_neg λh=>c (bX.mp h).1];rfl
   ·rw[zW,aN]
theorem uC(f:κ→κ)(acc:List κ):∀(L A:List κ),kt acc ((kt A L).map f)=kt acc ((A++L).map f)
 | [],A=>by rw[aN];rfl
 |x::L,A=>by
  refine(uC f acc L _).trans ?_
  by_cases c:x∈A
  ·rw[if_pos c,bQ,bQ,lK,lK]
   show _=kt (if f x∈kt acc (A.map f)then _ else _) _
   rw[if_pos ((lJ _ _).mpr (.inr (an.mpr ⟨x,c,rfl⟩)))]
  ·rw[if_neg c,bC];rfl
theorem r7(f:σ→κ→κ)(L:σ→List κ):∀(ss:List σ)(acc:List κ),kt acc (ss.flatMap λs=>(kt [] (L s)).map (f s))=kt acc (ss.flatMap λs=>(L s).map (f s))
 | [],acc=>rfl
 |s::ss,acc=>by
  rw[cY,cY,lK,lK,uC,aX]
  exact r7 f L ss _
variable(lk:κ→κ→Bool)
noncomputable def Nk(L:List κ):List κ:=L.filter λb=> !L.any (lk b ·)
variable{lk}(tr:∀a b c,lk a b=true→lk b c=true→lk a c=true)(ir:∀a,lk a a=false)
include tr ir
theorem wF(L:List κ):∀n b,(L.filter (lk b ·)).length≤n→b∈L→∃m∈Nk lk L,m=b∨lk b m=true
 |n,b,hn,hb=>by
  by_cases c:L.any (lk b ·)=true
  ·obtain⟨x,hx,e⟩:=b3.mp c
   have sub:L.filter (lk x ·)=(L.filter (lk b ·)).filter (lk x ·):=by
    rw[v9]
    exact gk λy z=>by
     cases h:lk x y with
     |false=>rfl
     |true=>rw[tr b x y e h];rfl
   have lt:(L.filter (lk x ·)).length<(L.filter (lk b ·)).length:=by
    rw[sub]
    refine mS (tS _ _) λh=>?_
    have:=List.length_filter_eq_length_iff.mp h x (bX.mpr ⟨hx,e⟩)
    rw[ir]at this;cases this
   match n,hn with
   |0,hn=>exact absurd (aA lt hn) (eH _)
   |n+1,hn=>
    obtain⟨m,hm,h⟩:=wF L n x (aP (aA lt hn)) hx
    exact⟨m,hm,.inr (h.elim (λh=>h▸e) (tr b x m e))⟩
  ·exact⟨b,bX.mpr ⟨hb,by rw[Bool.not_eq_true]at c;rw[c];rfl⟩,.inl rfl⟩
theorem wE{L:List κ}{b:κ}(hb:b∈L):∃m∈kt [] (Nk lk L),m=b∨lk b m=true:=by
 obtain⟨m,hm,h⟩:=wF tr ir L _ b (bx _) hb
 exact⟨m,(lJ _ _).mpr (.inr hm),h⟩
theorem vp(f:σ→κ→κ)(ft:∀s a b,lk (f s a) (f s b)=lk a b)(ss:List σ)(W K:σ→List κ)(ih:∀s∈ss,K s=kt [] (Nk lk (W s))):
 kt [] (Nk lk (ss.flatMap λs=>(K s).map (f s)))=kt [] (Nk lk (ss.flatMap λs=>(W s).map (f s))):=by
 have sub:∀x∈ss.flatMap λs=>(K s).map (f s),x∈ss.flatMap λs=>(W s).map (f s):=λx hx=>by
  obtain⟨s,hs,hx⟩:=b0.mp hx
  obtain⟨y,hy,rfl⟩:=an.mp hx
  rw[ih s hs]at hy
  exact b0.mpr ⟨s,hs,an.mpr ⟨y,(bX.mp (((lJ _ _).mp hy).resolve_left nofun)).1,rfl⟩⟩
 have up:∀s∈ss,∀w∈W s,∃m∈K s,m=w∨lk w m=true:=λs hs w hw=>by
  rw[ih s hs];exact wE tr ir hw
 have any:∀b,(ss.flatMap λs=>(K s).map (f s)).any (lk b ·)=(ss.flatMap λs=>(W s).map (f s)).any (lk b ·):=λb=>by
  refine ic.mpr ⟨λh=>?_,λh=>?_⟩
  ·obtain⟨x,hx,e⟩:=b3.mp h
   exact b3.mpr ⟨x,sub x hx,e⟩
  ·obtain⟨x,hx,e⟩:=b3.mp h
   obtain⟨s,hs,hx⟩:=b0.mp hx
   obtain⟨w,hw,rfl⟩:=an.mp hx
   obtain⟨m,hm,h⟩:=up s hs w hw
   refine b3.mpr ⟨f s m,b0.mpr ⟨s,hs,an.mpr ⟨m,hm,rfl⟩⟩,?_⟩
   rcases h with rfl|h
   ·exact e
   ·exact tr _ _ _ e ((ft s w m).trans h)
 have e1:Nk lk (ss.flatMap λs=>(K s).map (f s))=(ss.flatMap λs=>(K s).map (f s)).filter λb=> !(ss.flatMap λs=>(W s).map (f s)).any (lk b ·):=
  gk λb z=>by rw[any b]
 have e2:(ss.flatMap λs=>(K s).map (f s))=ss.flatMap λs=>(kt [] (Nk lk (W s))).map (f s):=by
  unfold mZ;rw[bo λs hs=>by rw[ih s hs]]
 have e3:∀q:κ→Bool,(∀s∈ss,∀x∈W s,q (f s x)=true→(!(W s).any (lk x ·))=true)→(ss.flatMap λs=>(Nk lk (W s)).map (f s)).filter q=(ss.flatMap λs=>(W s).map (f s)).filter q:=λq hq=>by
  rw[vW,vW]
  unfold mZ
  congr 1
  refine bo λs hs=>?_
  rw[kj,kj]
  unfold Nk
  rw[v9]
  congr 1
  refine gk λx hx=>?_
  cases h:q (f s x)with
  |false=>show(q (f s x)&&_)=q (f s x);rw[h];rfl
  |true=>show(q (f s x)&&_)=q (f s x);rw[h,hq s hs x hx h];rfl
 rw[e1,show([]:List κ)=([]:List κ).filter (λb=> !(ss.flatMap λs=>(W s).map (f s)).any (lk b ·))from rfl,←lm,e2,r7,lm,e3]
 ·rfl
 ·intro s hs x hx h
  cases c:(W s).any (lk x ·)with
  |false=>rfl
  |true=>
   obtain⟨y,hy,e⟩:=b3.mp c
   rw[b3.mpr ⟨f s y,b0.mpr ⟨s,hs,an.mpr ⟨y,hy,rfl⟩⟩,(ft s x y).trans e⟩]at h
   cases h
end
theorem exOf{α:Type}{x:Option α}{a:α}{p:α→Prop}(h:x=some a):(∃v,x=some v∧p v)=p a:=propext ⟨λq=>by obtain⟨v,e,q⟩:=q;cases h.symm.trans e;exact q,λq=>⟨a,h,q⟩⟩
theorem uS{α:Type}{a:α}{p:α→Prop}:(∃v,some a=some v∧p v)=p a:=exOf rfl
theorem AN{α β:Type}{a:α}{p:α→β→Prop}:(∃v b,some a=some v∧p v b)=∃b,p a b:=propext ⟨λq=>by obtain⟨v,b,e,q⟩:=q;cases e;exact⟨b,q⟩,λq=>by obtain⟨b,q⟩:=q;exact⟨a,b,rfl,q⟩⟩
theorem Ef{α β γ δ:Type}{a:α}{p:α→β→γ→δ→Prop}:(∃v b c d,some a=some v∧p v b c d)=∃b c d,p a b c d:=propext ⟨λq=>by obtain⟨v,b,c,d,e,q⟩:=q;cases e;exact⟨b,c,d,q⟩,λq=>by obtain⟨b,c,d,q⟩:=q;exact⟨a,b,c,d,rfl,q⟩⟩
theorem DX{a:Int}{p:Int→Prop}:(∃v,V.int a= .int v∧p v)=p a:=propext ⟨λq=>by obtain⟨v,e,q⟩:=q;cases e;exact q,λq=>⟨a,rfl,q⟩⟩
theorem AO{a b:Int}{p:Int→Int→Prop}:(∃c d,[V.int a,V.int b]=[.int c,.int d]∧p c d)=p a b:=propext ⟨λq=>by obtain⟨v,w,e,q⟩:=q;cases e;exact q,λq=>⟨a,b,rfl,q⟩⟩
theorem wg{β:Type}{a:V}{p:V→β→Prop}:(∃v b,[a]=[v]∧p v b)=∃b,p a b:=propext ⟨λq=>by obtain⟨v,b,e,q⟩:=q;cases e;exact⟨b,q⟩,λq=>by obtain⟨b,q⟩:=q;exact⟨a,b,rfl,q⟩⟩
theorem Cd{β γ:Type}{a:V}{p:V→β→γ→Prop}:(∃v b c,[a]=[v]∧p v b c)=∃b c,p a b c:=propext ⟨λq=>by obtain⟨v,b,c,e,q⟩:=q;cases e;exact⟨b,c,q⟩,λq=>by obtain⟨b,c,q⟩:=q;exact⟨a,b,c,rfl,q⟩⟩
theorem D6(a b:Int):(if b<a then b else a)=min a b:=by
 by_cases h:a≤b
 ·rw[pD h,if_neg (xk.mpr h)]
 ·rw[oZ (nu (Ev.mp h)),if_pos (Ev.mp h)]
theorem D7(a b:Int):(if b>a then b else a)=max a b:=by
 by_cases h:a<b
 ·rw[if_pos h,d6 (nu h)]
 ·rw[if_neg h,pE (xk.mp h)]
section
variable{Q:Fw→aZ→Hp→Prop}{X:XS}{loc:aZ}{hp:Hp}{QE:V→Hp→Prop}{XE:XA}{QA:List V→Hp→Prop}{QT:Bool→Hp→Prop}{QG:aZ→Hp→Prop}
@[simp ↓] theorem sZ{a b:DS}:ay a b Q X loc hp=a (λw loc1 hp1=>match w with| .next=>b Q X loc1 hp1|w=>Q w loc1 hp1) X loc hp:=rfl
@[simp ↓] theorem gO{e:DE}{t:DA}:bE e t Q X loc hp=e (λv hp1=>t v (λloc' hp2=>Q .next loc' hp2) X loc hp1) (λk hp'=>X k loc hp') loc hp:=rfl
@[simp ↓] theorem C9{e:DE}{t u:DA}:wp e t u Q X loc hp=e (λv hp1=>t v (λloc2 hp2=>u v (λloc3 hp3=>Q .next loc3 hp3) X loc2 hp2) X loc hp1) (λk hp'=>X k loc hp') loc hp:=rfl
@[simp ↓] theorem C8{e:DE}{t u w:DA}:wo e t u w Q X loc hp=e (λv hp1=>t v (λloc2 hp2=>u v (λloc3 hp3=>w v (λloc4 hp4=>Q .next loc4 hp4) X loc3 hp3) X loc2 hp2) X loc hp1) (λk hp'=>X k loc hp') loc hp:=rfl
@[simp ↓] theorem Bl{e:DE}:fQ e Q X loc hp=e (λv hp1=>Q (.ret v) loc hp1) (λk hp'=>X k loc hp') loc hp:=rfl
@[simp ↓] theorem wX{e:DE}:jt e Q X loc hp=e (λv hp1=>Q .next loc hp1) (λk hp'=>X k loc hp') loc hp:=rfl
@[simp ↓] theorem C7:aB Q X loc hp=Q .next loc hp:=rfl
@[simp ↓] theorem EI:sJ Q X loc hp=Q .brk loc hp:=rfl
@[simp ↓] theorem zF:wn Q X loc hp=Q .cont loc hp:=rfl
@[simp ↓] theorem pT{t:DT}{a b:DS}:jX t a b Q X loc hp=t (λc hp1=>if c then a Q X loc hp1 else b Q X loc hp1) (λk hp'=>X k loc hp') loc hp:=rfl
@[simp ↓] theorem Bm{i:Nat}{e:DE}{a b:DS}:yJ i e a b Q X loc hp=e (λv hp1=>∃c,gC v .none=some c∧if c then a Q X (upd loc i v) hp1 else b Q X (upd loc i v) hp1) (λk hp'=>X k loc hp') loc hp:=rfl
@[simp ↓] theorem C6{i j:Nat}{e:DE}:wm i j e Q X loc hp=e (λv hp1=>∃u w,v= .tup [u,w]∧Q .next (upd (upd loc j w) i u) hp1) (λk hp'=>X k loc hp') loc hp:=rfl
@[simp ↓] theorem EJ{g:V→(V→Hp→Prop)→Hp→Prop}{f:V→V→(Hp→Prop)→Hp→Prop}{b:B2}{o e:DE}:uU g f b o e Q X loc hp=o (λov hp1=>g ov (λold hp2=>e (λu hp3=>b old u (λw hp4=>f ov w (λhp5=>Q .next loc hp5) hp4) hp3) (λk hp'=>X k loc hp') loc hp2) hp1) (λk hp'=>X k loc hp') loc hp:=rfl
@[simp ↓] theorem wW{e:DE}{t:DA}{b:DS}:jr e t b Q X loc hp=e (λv hp1=>∃vs,dp hp1 v=some vs∧de v hp1 t b Q vs loc hp1) (λk hp'=>X k loc hp') loc hp:=rfl
@[simp ↓] theorem EG{k0:Nat}{b h:DS}:AI k0 b h Q X loc hp=b Q (λk loc' hp'=>k=k0∧h Q pn loc' hp') loc hp:=rfl
@[simp ↓] theorem CT{k:Nat}{a:kS}:sQ k a Q X loc hp=a (λvs hp1=>vs.length≤lim∧X k loc hp1) (λk hp'=>X k loc hp') loc hp:=rfl
@[simp ↓] theorem EH{o i:DE}:AJ o i Q X loc hp=o (λov hp1=>i (λiv hp2=>wB ov iv (λhp3=>Q .next loc hp3) hp2) (λk hp'=>X k loc hp') loc hp1) (λk hp'=>X k loc hp') loc hp:=rfl
@[simp ↓] theorem qz{i:Nat}{v:V}:aG i v QG X loc hp=QG (upd loc i v) hp:=rfl
@[simp ↓] theorem wY{f:V→V→(Hp→Prop)→Hp→Prop}{o:DE}{v:V}:gB f o v QG X loc hp=o (λov hp1=>f ov v (λhp2=>QG loc hp2) hp1) (λk hp'=>X k loc hp') loc hp:=rfl
@[simp ↓] theorem uq{o i:DE}{v:V}:lE o i v QG X loc hp=o (λov hp1=>i (λiv hp2=>rD ov iv v (λhp3=>QG loc hp3) hp2) (λk hp'=>X k loc hp') loc hp1) (λk hp'=>X k loc hp') loc hp:=rfl
@[simp ↓] theorem EL{ts:List DA}{v:V}:ij ts v QG X loc hp=∃us,v= .tup us∧jY ts us QG X loc hp:=rfl
@[simp ↓] theorem bV{i:Nat}:ap i QE XE loc hp=∃v,loc i=some v∧QE v hp:=rfl
@[simp ↓] theorem e9{v:V}:aJ v QE XE loc hp=QE v hp:=rfl
@[simp ↓] theorem fW{b:B2}{l r:DE}:bK b l r QE XE loc hp=l (λx hp1=>r (λy hp2=>b x y QE hp2) XE loc hp1) XE loc hp:=rfl
@[simp ↓] theorem jz{f:V→(V→Hp→Prop)→Hp→Prop}{o:DE}:bU f o QE XE loc hp=o (λv hp1=>f v QE hp1) XE loc hp:=rfl
@[simp ↓] theorem Bo{a:kS}:rq a QE XE loc hp=a (λvs hp1=>vs.length≤lim∧QE (.tup vs) hp1) XE loc hp:=rfl
@[simp ↓] theorem qA{a:kS}:i3 a QE XE loc hp=a (λvs hp1=>vs.length≤lim∧QE (.lst vs) hp1) XE loc hp:=rfl
@[simp ↓] theorem Bq{a:kS}:pv a QE XE loc hp=a (λvs hp1=>vs.length≤lim∧∀l,hp1 l=ac→QE (.ref l) (upd hp1 l (.lst vs))) XE loc hp:=rfl
@[simp ↓] theorem zJ:n9 QE XE loc hp=∀l,hp l=ac→∀ep,QE (.ref l) (upd hp l (.dict [] ep)):=rfl
@[simp ↓] theorem eG{Dc:DC}{a:kS}:aS Dc a QE XE loc hp=a (λvs hp1=>Dc vs QE XE hp1) XE loc hp:=rfl
@[simp ↓] theorem nS{isR:Hp→V→Prop}{Dc:DC}{o:DE}{a:kS}:b7 isR Dc o a QE XE loc hp=o (λr hp1=>isR hp1 r∧a (λvs hp2=>Dc (r::vs) QE XE hp2) XE loc hp1) XE loc hp:=rfl
@[simp ↓] theorem ek:aF QA XE loc hp=QA [] hp:=rfl
@[simp ↓] theorem cr{e:DE}{r:kS}:av e r QA XE loc hp=e (λv hp1=>r (λvs hp2=>QA (v::vs) hp2) XE loc hp1) XE loc hp:=rfl
@[simp ↓] theorem Dv{e:DE}{r:kS}:rE e r QA XE loc hp=e (λv hp1=>∃us,jx hp1 v=some us∧us.length≤lim∧r (λvs hp2=>QA (us++vs) hp2) XE loc hp1) XE loc hp:=rfl
@[simp ↓] theorem EO{a:DE}:AT a QE XE loc hp=a (λv hp1=>∃i,v= .int i∧QE (.int (-i)) hp1) XE loc hp:=rfl
@[simp ↓] theorem Br{t:DT}{a b:DE}:uV t a b QE XE loc hp=t (λc hp1=>if c then a QE XE loc hp1 else b QE XE loc hp1) XE loc hp:=rfl
@[simp ↓] theorem EN{a b:DE}:AS a b QE XE loc hp=a (λv hp1=>∃c,eR hp1 v=some c∧(∀vs,bL hp1 v=some vs→vs.length≤lim)∧if c then QE v hp1 else b QE XE loc hp1) XE loc hp:=rfl
@[simp ↓] theorem EP{i:Nat}:yL i QE XE loc hp=∃a us,loc i=some (.ref a)∧hp a=some (.lst us)∧QE (.lst us) (del hp a):=rfl
@[simp ↓] theorem EQ{o l u st:DE}:wj o l u st QE XE loc hp=o (λov hp1=>l (λlv hp2=>u (λuv hp3=>st (λkv hp4=>yO ov lv uv kv QE hp4) XE loc hp3) XE loc hp2) XE loc hp1) XE loc hp:=rfl
@[simp ↓] theorem Dl{e:DE}:wu e QE XE loc hp=e (λv hp1=>∃I l k us,v= .nxt I∧hp1 I=some (.it l k)∧hp1 l=some (.lst us)∧match us[k]? with
  |some u=>QE u (upd hp1 I (.it l (k+1)))
  |ac=>XE 0 (del hp1 I)) XE loc hp:=rfl
@[simp ↓] theorem Dn{fr:List Nat}{src:DE}{t:DA}{f:DT}{inner:CD}:dF fr src t f inner QE XE loc hp=src (λv hp1=>∃vs,dp hp1 v=some vs∧mj v hp1 t f inner (λacc hp'=>QE (.lst acc) hp') vs [] (keepL fr loc) hp1) XE loc hp:=rfl
@[simp ↓] theorem CU{fr:List Nat}{src:DE}{t:DA}{f:DT}{inner:CD}:ti fr src t f inner QE XE loc hp=src (λv hp1=>∃vs,dp hp1 v=some vs∧mj v hp1 t f inner (λacc hp'=>∀l,hp' l=ac→QE (.ref l) (upd hp' l (.lst acc))) vs [] (keepL fr loc) hp1) XE loc hp:=rfl
@[simp ↓] theorem Bj{t:DE}:kL t QT XE loc hp=t (λv hp1=>∃b,eR hp1 v=some b∧(∀vs,bL hp1 v=some vs→vs.length≤lim)∧QT b hp1) XE loc hp:=rfl
@[simp ↓] theorem mA{b:B2}{l r:DE}:cF b l r QT XE loc hp=l (λx hp1=>r (λy hp2=>b x y (λv hp3=>∃c,v= .bool c∧QT c hp3) hp2) XE loc hp1) XE loc hp:=rfl
@[simp ↓] theorem Bk{a b:DT}:ni a b QT XE loc hp=a (λc hp1=>if c then b QT XE loc hp1 else QT false hp1) XE loc hp:=rfl
@[simp ↓] theorem Fp{a b:DT}:yz a b QT XE loc hp=a (λc hp1=>if c then QT true hp1 else b QT XE loc hp1) XE loc hp:=rfl
@[simp ↓] theorem zG:fNone QT XE loc hp=QT true hp:=rfl
@[simp ↓] theorem Fu{x y:V}:AE x y QE hp=∃b,gC x y=some b∧QE (.bool b) hp:=rfl
@[simp ↓] theorem CW{x y:V}:ix x y QE hp=∃b,gC x y=some b∧QE (.bool (!b)) hp:=rfl
@[simp ↓] theorem qB{f:Int→Int→Int}{a b:Int}:nk f (.int a) (.int b) QE hp=QE (.int (f a b)) hp:=rfl
@[simp ↓] theorem s7{f:Int→Int→Bool}{a b:Int}:k4 f (.int a) (.int b) QE hp=QE (.bool (f a b)) hp:=rfl
@[simp ↓] theorem mB{a b:Int}:d9 (.int a) (.int b) QE hp=QE (.int (a+b)) hp:=rfl
@[simp ↓] theorem Dr{a b:List Nat}:d9 (.str a) (.str b) QE hp=(a.length+b.length≤lim∧QE (.str (a++b)) hp):=rfl
@[simp ↓] theorem uw{a b:List V}:d9 (.lst a) (.lst b) QE hp=(a.length+b.length≤lim∧QE (.lst (a++b)) hp):=by
  exact AN.trans uS
@[simp ↓] theorem Bt{a b:Int}:n7 (.int a) (.int b) QE hp=(b≠0∧QE (.int (a.fmod b)) hp):=rfl
@[simp ↓] theorem ET{a b:Int}:uX (.int a) (.int b) QE hp=((b≠0∧(a.natAbs<1073741824∨b.natAbs<1073741824))∧QE (.int (a.fdiv b)) hp):=rfl
@[simp ↓] theorem Dq{a b:Int}:j7 (.int a) (.int b) QE hp=((small a∨small b)∧QE (.int (a*b)) hp):=rfl
@[simp ↓] theorem Dp{a:List Nat}{n:Int}:j7 (.str a) (.int n) QE hp=(-(10 ^ 9)<n∧n<10 ^ 9∧a.length*n.toNat≤lim∧QE (.str (ar n.toNat a).flatten) hp):=rfl
@[simp ↓] theorem zK{a:List V}{n:Int}:j7 (.lst a) (.int n) QE hp=(-(10 ^ 9)<n∧n<10 ^ 9∧a.length*n.toNat≤lim∧QE (.lst (ar n.toNat a).flatten) hp):=by
  exact DX.trans uS
@[simp ↓] theorem x9{a:List V}{k:Int}:dJ (.lst a) (.int k) QE hp=(a.length≤lim∧∃v,d0 a k=some v∧QE v hp):=by
  exact DX
@[simp ↓] theorem CV{a:List V}{k:Int}:dJ (.tup a) (.int k) QE hp=(a.length≤lim∧∃v,d0 a k=some v∧QE v hp):=by
  exact DX
@[simp ↓] theorem zL{a:List V}{l u st:V}:yO (.lst a) l u st QE hp=∃lo hi k,a.length≤lim∧i4 l=some lo∧i4 u=some hi∧i4 st=some k∧k≠some 0∧QE (.lst (pw a lo hi k)) hp:=by
  exact Ef
@[simp ↓] theorem zH{a b:Int}:wx [.int a,.int b] QE XE hp=QE (.int (min a b)) hp:=by
  exact AO.trans (congrArg (λc=>QE (.int c) hp) (D6 a b))
@[simp ↓] theorem ur{a b:Int}:pU [.int a,.int b] QE XE hp=QE (.int (max a b)) hp:=by
  exact AO.trans (congrArg (λc=>QE (.int c) hp) (D7 a b))
@[simp ↓] theorem zI{a:List V}:iK [.lst a] QE XE hp=(a.length≤lim∧QE (.int a.length) hp):=wg.trans uS
@[simp ↓] theorem Dm{a:List V}:iK [.tup a] QE XE hp=(a.length≤lim∧QE (.int a.length) hp):=wg.trans uS
@[simp ↓] theorem ut{a:List Nat}:iK [.str a] QE XE hp=(a.length≤lim∧QE (.int a.length) hp):=wg.trans uS
@[simp ↓] theorem vD{a:Int}:d4 [.int a] QE XE hp=QE (.rng 0 a) hp:=by simp[d4]
@[simp ↓] theorem vC{a b:Int}:lM [.int a,.int b] QE XE hp=QE (.rng a b) hp:=by
  exact AO
@[simp ↓] theorem Bs{a:Int}:yM [.int a] QE XE hp=QE (.int (if a<0 then -a else a)) hp:=by simp[yM]
end
theorem eqvI(x k:Int):cf (.int x) (.int k)=decide (x=k):=rfl
theorem jD:∀ns:List Int,jv (ns.map .int)=some ns:=by
 intro xs_
 induction xs_ with
 |nil=>
  exact rfl
 |cons n ns ih=>
  exact congrArg (Option.map (n::·)) (ih)
theorem oK:∀ns:List Int,iO (ns.map .int)=some (ns.map .int):=by
 intro xs_
 induction xs_ with
 |nil=>
  exact rfl
 |cons n ns ih=>
  show(some (jQ n)).bind (λd=>(iO (ns.map .int)).map (d::·))=_
  rw[ih];rfl
theorem iy{hp:Hp}(ns:List Int):toD hp (.lst (ns.map .int))=some (.list (ns.map .int)):=by
 show(iO _).map _=_
 rw[oK];rfl
theorem mK:∀ns:List Int,eJ (ns.map .int)=true∧gV (ns.map .int)=0:=by
 intro xs_
 induction xs_ with
 |nil=>
  exact⟨rfl,rfl⟩
 |cons n ns ih=>
  have:=ih;simp[eJ,dD,gV,eX,this]
theorem gH(ns:List Int):bu (.list (ns.map .int))=true:=by
 simp[bu,dD,eX,mK ns]
theorem jC(n:Int):bu (.int n)=true:=by simp[bu,dD,eX]
theorem eqv_ints:∀xs ys:List Int,jb (xs.map .int) (ys.map .int)=decide (xs=ys)
 | [],[]=>rfl
 | [],y::ys=>rfl
 |x::xs,[]=>rfl
 |x::xs,y::ys=>by
  simp only[ao,jb,cf,eqv_ints xs ys,jp,zY]
  rfl
section
variable{Q:V→Hp→Prop}{hp:Hp}{XE:XA}
theorem eq_int{a b:Int}(h:Q (.bool (decide (a=b))) hp):nZ (.int a) (.int b) Q hp:=⟨_,_,rfl,rfl,jC _,jC _,h⟩
theorem ne_int{a b:Int}(h:Q (.bool (decide (a≠b))) hp):tX (.int a) (.int b) Q hp:=by
 refine⟨_,_,rfl,rfl,jC _,jC _,?_⟩
 have:(!cf (.int a) (.int b))=decide (a≠b):=by rw[eqvI];by_cases h:a=b<;>simp[h]
 rw[this];exact h
theorem eq_ints{a b:List Int}(h:Q (.bool (decide (a=b))) hp):nZ (.lst (a.map .int)) (.lst (b.map .int)) Q hp:=by
 refine⟨.list (a.map .int),.list (b.map .int),?_,?_,gH _,gH _,?_⟩
 ·exact iy _
 ·exact iy _
 ·simpa[cf,eqv_ints]using h
theorem ne_ints{a b:List Int}(h:Q (.bool (decide (a≠b))) hp):tX (.lst (a.map .int)) (.lst (b.map .int)) Q hp:=by
 refine⟨.list (a.map .int),.list (b.map .int),?_,?_,gH _,gH _,?_⟩
 ·exact iy _
 ·exact iy _
 ·simpa[cf,eqv_ints]using h
end
section
variable{Q:V→Hp→Prop}{hp:Hp}{XE:XA}{QT:Bool→Hp→Prop}
@[simp ↓] theorem Ft{a b:Int}:nZ (.int a) (.int b) Q hp=Q (.bool (decide (a=b))) hp:=by
  apply propext;constructor
  ·rintro⟨x,y,h1,h2,_,_,h⟩
   cases h1;cases h2;rw[←eqvI];exact h
  ·exact eq_int
@[simp ↓] theorem Fq{a b:Int}:tX (.int a) (.int b) Q hp=Q (.bool (decide (a≠b))) hp:=by
  have e:(!cf (.int a) (.int b))=decide (a≠b):=by rw[eqvI];by_cases h:a=b<;>simp[h]
  apply propext;constructor
  ·rintro⟨x,y,h1,h2,_,_,h⟩
   cases h1;cases h2;rw[←e];exact h
  ·exact ne_int
@[simp ↓] theorem EM{a b:List Int}:nZ (.lst (a.map .int)) (.lst (b.map .int)) Q hp=Q (.bool (decide (a=b))) hp:=by
  apply propext;constructor
  ·rintro⟨x,y,h1,h2,_,_,h⟩
   rw[iy]at h1 h2;cases h1;cases h2;simpa[cf,eqv_ints]using h
  ·exact eq_ints
@[simp ↓] theorem Bn{a b:List Int}:tX (.lst (a.map .int)) (.lst (b.map .int)) Q hp=Q (.bool (decide (a≠b))) hp:=by
  apply propext;constructor
  ·rintro⟨x,y,h1,h2,_,_,h⟩
   rw[iy]at h1 h2;cases h1;cases h2;simpa[cf,eqv_ints]using h
  ·exact ne_ints
@[simp ↓] theorem EK{a:List Int}:tX (.lst (a.map .int)) (.lst []) Q hp=Q (.bool (decide (a≠ []))) hp:=Bn (b:=[])
@[simp ↓] theorem Bp{ns:List Int}:AQ [.lst (ns.map .int)] Q XE hp=Q (.int ns.sum) hp:=Cd.trans (AN.trans (exOf (jD ns)))
@[simp ↓] theorem x8{ns:List Int}:qC [.lst (ns.map .int)] Q XE hp=(ns.length<64∧Q (.lst ((fU ns).map .int)) hp):=(Cd.trans (AN.trans (exOf (jD ns)))).trans (by rw[ak])
@[simp] theorem BB{b:Bool}:eR hp (.bool b)=some b:=rfl
@[simp] theorem BA:eR hp .none=some false:=rfl
@[simp] theorem BV{vs:List V}:eR hp (.lst vs)=some (!vs.isEmpty):=rfl
@[simp] theorem BX{b:Bool}:bL hp (.bool b)=ac:=rfl
@[simp] theorem CQ{b:Int}:bL hp (.int b)=ac:=rfl
@[simp] theorem BW:bL hp .none=ac:=rfl
@[simp] theorem CP{vs:List V}:bL hp (.lst vs)=some vs:=rfl
@[simp] theorem BZ{vs:List V}:jx hp (.lst vs)=some vs:=rfl
@[simp] theorem BY{vs:List V}:jx hp (.tup vs)=some vs:=rfl
@[simp] theorem CS{vs:List V}:dp hp (.lst vs)=some vs:=rfl
@[simp] theorem CR{vs:List V}:dp hp (.tup vs)=some vs:=rfl
@[simp] theorem EA:gC .none .none=some true:=rfl
@[simp] theorem my{a b:Bool}:gC (.bool a) (.bool b)=some (a==b):=rfl
@[simp] theorem Ez{a:Addr}:gC (.ref a) .none=some false:=rfl
@[simp] theorem EB{a:List V}:gC (.lst a) .none=some false:=rfl
@[simp] theorem EC{a:Int}:gC (.int a) .none=some false:=rfl
@[simp] theorem CO{a:List V}{hp hp':Hp}:same (.lst a) hp hp'=True:=rfl
@[simp] theorem CL{a:List V}{hp hp':Hp}:same (.tup a) hp hp'=True:=rfl
@[simp] theorem CN{a b:Int}{hp hp':Hp}:same (.rng a b) hp hp'=True:=rfl
@[simp] theorem CM{a:List Nat}{hp hp':Hp}:same (.str a) hp hp'=True:=rfl
theorem gF{a:Addr}{us:List V}{v:V}(h:hp a=some (.lst us))(hl:us.length≤lim)(q:Q .none (upd hp a (.lst (us++[v])))):fF [.ref a,v] Q XE hp:=⟨_,_,_,rfl,h,hl,q⟩
theorem isLst_ref{a:Addr}{us:List V}(h:hp a=some (.lst us)):ip hp (.ref a):=⟨us,listOf_ref h⟩
@[simp ↓ high] theorem kB{b:Bool}{K:Bool→Prop}:(∃c,V.bool b=V.bool c∧K c)=K b:=by
  apply propext;constructor
  ·rintro⟨c,h,k⟩;cases h;exact k
  ·intro k;exact⟨b,rfl,k⟩
@[simp ↓ high] theorem ex_int'{b:Int}{K:Int→Prop}:(∃c,V.int b=V.int c∧K c)=K b:=by
  apply propext;constructor
  ·rintro⟨c,h,k⟩;cases h;exact k
  ·intro k;exact⟨b,rfl,k⟩
@[simp ↓ high] theorem ex_tup{b:List V}{K:List V→Prop}:(∃c,V.tup b=V.tup c∧K c)=K b:=by
  apply propext;constructor
  ·rintro⟨c,h,k⟩;cases h;exact k
  ·intro k;exact⟨b,rfl,k⟩
theorem rd{o:Option V}{x:V}{K:V→Prop}(h:o=some x):(∃v,o=some v∧K v)=K x:=by
 apply propext;constructor
 ·rintro⟨c,e,k⟩;rw[h]at e;cases e;exact k
 ·intro k;exact⟨x,h,k⟩
@[simp ↓ high] theorem rd_upd{loc:aZ}{j i:Nat}{x:V}{K:V→Prop}:(∃v,upd loc j x i=some v∧K v)=if i=j then K x else∃v,loc i=some v∧K v:=by
  split
  ·rename_i h;subst h;exact rd (upd_same ..)
  ·rename_i h;rw[upd_ne h]
theorem locOf_cons(ps:List (Nat×V))(j i:Nat)(x:V):locOf ((j,x)::ps) i=if i=j then some x else locOf ps i:=by
 by_cases h:i=j
 ·simp[locOf,h]
 ·simp[locOf,dE,show(i==j)=false by simpa using h,h]
@[simp ↓ high] theorem wI{ps:List (Nat×V)}{j i:Nat}{x:V}{K:V→Prop}:(∃v,locOf ((j,x)::ps) i=some v∧K v)=if i=j then K x else∃v,locOf ps i=some v∧K v:=by
  split
  ·rename_i h;subst h;exact rd (by simp[locOf])
  ·rename_i h
   have:locOf ((j,x)::ps) i=locOf ps i:=by simp[locOf,dE,show(i==j)=false by simpa using h]
   rw[this]
@[simp ↓ high] theorem EE{vs:List V}{K:List V→Prop}:(∃us,dp hp (.lst vs)=some us∧K us)=K vs:=uS
@[simp ↓ high] theorem ED{vs:List V}{K:List V→Prop}:(∃us,dp hp (.tup vs)=some us∧K us)=K vs:=uS
theorem Cx{v:V}{vs:List V}{K:List V→Prop}(h:dp hp v=some vs):(∃us,dp hp v=some us∧K us)=K vs:=exOf h
@[simp ↓ high] theorem EF{vs:List V}{K:List V→Prop}:(∃us,jx hp (.lst vs)=some us∧K us)=K vs:=uS
@[simp ↓ high] theorem y0{c:Bool}{K:Bool→Prop}:(∃b,eR hp (.bool c)=some b∧(∀vs,bL hp (.bool c)=some vs→vs.length≤lim)∧K b)=K c:=by simp
@[simp ↓ high] theorem C5{K:Bool→Prop}:(∃b,eR hp .none=some b∧(∀vs,bL hp .none=some vs→vs.length≤lim)∧K b)=K false:=by simp
@[simp ↓ high] theorem Ey{us:List V}{K:Bool→Prop}:(∃b,eR hp (.lst us)=some b∧(∀vs,bL hp (.lst us)=some vs→vs.length≤lim)∧K b)=(us.length≤lim∧K (!us.isEmpty)):=by
  apply propext;constructor
  ·rintro⟨b,h1,h2,h3⟩;cases h1;exact⟨h2 _ rfl,h3⟩
  ·rintro⟨h1,h2⟩;exact⟨_,rfl,λvs e=>by cases e;exact h1,h2⟩
theorem tr_ref{a:Addr}{us:List V}{K:Bool→Prop}(h:hp a=some (.lst us)):(∃b,eR hp (.ref a)=some b∧(∀vs,bL hp (.ref a)=some vs→vs.length≤lim)∧K b)=(us.length≤lim∧K (!us.isEmpty)):=by
 have e1:eR hp (.ref a)=some (!us.isEmpty):=congrArg (λo=>match o with|some (O.lst vs)=>some (!vs.isEmpty)|_=>ac) h
 have e2:bL hp (.ref a)=some us:=listOf_ref h
 apply propext;constructor
 ·rintro⟨b,h1,h2,h3⟩;rw[e1]at h1;cases h1;exact⟨h2 _ e2,h3⟩
 ·rintro⟨h1,h2⟩;exact⟨_,e1,λvs e=>by rw[e2]at e;cases e;exact h1,h2⟩
@[simp ↓ high] theorem on_nn{K:Bool→Prop}:(∃b,gC .none .none=some b∧K b)=K true:=uS
@[simp ↓ high] theorem Cs{a:Addr}{K:Bool→Prop}:(∃b,gC (.ref a) .none=some b∧K b)=K false:=uS
@[simp ↓ high] theorem Fm{a:List V}{K:Bool→Prop}:(∃b,gC (.lst a) .none=some b∧K b)=K false:=uS
@[simp ↓ high] theorem Fn{a:Int}{K:Bool→Prop}:(∃b,gC (.int a) .none=some b∧K b)=K false:=uS
@[simp ↓ high] theorem Fo{a c:Bool}{K:Bool→Prop}:(∃b,gC (.bool a) (.bool c)=some b∧K b)=K (a==c):=uS
@[simp ↓ high] theorem Dj{QG:aZ→Hp→Prop}{X:XS}{loc:aZ}:jY (fO aG []) [] QG X loc hp=QG loc hp:=rfl
@[simp ↓ high] theorem Dg{QG:aZ→Hp→Prop}{X:XS}{loc:aZ}{i:Nat}{is:List Nat}{u:V}{us:List V}:jY (fO aG (i::is)) (u::us) QG X loc hp=jY (fO aG is) us QG X (upd loc i u) hp:=rfl
@[simp ↓ high] theorem Dd{QG:aZ→Hp→Prop}{X:XS}{loc:aZ}{t:DA}{ts:List DA}{u:V}{us:List V}:jY (t::ts) (u::us) QG X loc hp=t u (λloc1 hp1=>jY ts us QG X loc1 hp1) X loc hp:=rfl
@[simp ↓ high] theorem Da{QG:aZ→Hp→Prop}{X:XS}{loc:aZ}:jY [] [] QG X loc hp=QG loc hp:=rfl
@[simp ↓ high] theorem ES{e:DE}{K:List V→Hp→Prop}{acc:List V}{loc:aZ}:eM e K acc loc hp=(acc.length≤lim∧e (λv hp1=>K (acc++[v]) hp1) noXA loc hp):=rfl
theorem mF{C:Addr}{i:Nat}{fs:List (Nat×V)}{v:V}(h:fs.lookup i=some v)(n:j4 v=true):bn C i (.obj C fs) Q hp=Q v hp:=by
 apply propext;constructor
 ·rintro⟨_,u,h1,_,q⟩;rw[h]at h1;cases h1;exact q
 ·intro q;exact⟨rfl,v,h,n,q⟩
theorem at_ref{C a dd:Addr}{i:Nat}{fs:List (Nat×V)}{v:V}(h1:hp a=some (.inst C dd))(h2:hp dd=some (.ns fs))(h:fs.lookup i=some v)(n:j4 v=true):bn C i (.ref a) Q hp=Q v hp:=by
 apply propext;constructor
 ·rintro⟨d',fs',u,e1,e2,e3,_,q⟩;rw[h1]at e1;cases e1;rw[h2]at e2;cases e2;rw[h]at e3;cases e3;exact q
 ·intro q;exact⟨dd,fs,v,h1,h2,h,n,q⟩
theorem setA_ref{C a dd:Addr}{i:Nat}{fs:List (Nat×V)}{v:V}{K:Hp→Prop}(h1:hp a=some (.inst C dd))(h2:hp dd=some (.ns fs))(hl:fs.length≤1000):dU C i (.ref a) v K hp=K (upd hp dd (.ns (ju fs i v))):=by
 apply propext;constructor
 ·rintro⟨d',fs',e1,e2,e3,q⟩;rw[h1]at e1;cases e1;rw[h2]at e2;cases e2;exact q
 ·intro q;exact⟨dd,fs,h1,h2,hl,q⟩
theorem sl_ref{C a:Addr}{k:Nat}{vs:List (Option V)}{v:V}(h1:hp a=some (.sl C vs))(h:vs[k]?=some (some v))(n:j4 v=true):gh C k (.ref a) Q hp=Q v hp:=by
 apply propext;constructor
 ·rintro⟨vs',u,e1,e2,_,q⟩;rw[h1]at e1;cases e1;rw[h]at e2;cases e2;exact q
 ·intro q;exact⟨vs,v,h1,h,n,q⟩
theorem setS_ref{C a:Addr}{k:Nat}{vs:List (Option V)}{v:V}{K:Hp→Prop}(h1:hp a=some (.sl C vs)):j6 C k (.ref a) v K hp=K (upd hp a (.sl C (kU vs k v))):=by
 apply propext;constructor
 ·rintro⟨vs',e1,q⟩;rw[h1]at e1;cases e1;exact q
 ·intro q;exact⟨vs,h1,q⟩
theorem item_dict{a:Addr}{es:List (Int×V)}{ep:Nat}{k:Int}{v:V}(h1:hp a=some (.dict es ep))(h:eAt es k=some v):dJ (.ref a) (.int k) Q hp=Q v hp:=by
 refine propext ⟨λq=>?_,λq=>⟨_,rfl,?_⟩⟩
 ·obtain⟨j,e,q⟩:=q;cases e;dsimp only at q;rw[h1]at q;obtain⟨u,e,q⟩:=q;cases h.symm.trans e;exact q
 ·dsimp only;rw[h1];exact⟨v,h,q⟩
theorem item_list{a:Addr}{vs:List V}{k:Int}{v:V}(h1:hp a=some (.lst vs))(hl:vs.length≤lim)(h:d0 vs k=some v):dJ (.ref a) (.int k) Q hp=Q v hp:=by
 refine propext ⟨λq=>?_,λq=>⟨_,rfl,?_⟩⟩
 ·obtain⟨j,e,q⟩:=q;cases e;dsimp only at q;rw[h1]at q;obtain⟨_,u,e,q⟩:=q;cases h.symm.trans e;exact q
 ·dsimp only;rw[h1];exact⟨hl,v,h,q⟩
theorem len_ref{a:Addr}{vs:List V}(h1:hp a=some (.lst vs))(hl:vs.length≤lim):iK [.ref a] Q XE hp=Q (.int vs.length) hp:=by
 have e:Ae hp (.ref a)=some vs.length:=congrArg (λo=>match o with|some (O.dict es _)=>some es.length|some (.lst vs)=>some vs.length|_=>ac) h1
 exact(wg.trans (exOf e)).trans (propext (and_iff_right hl))
theorem rH{a:Addr}{vs:List V}(h1:hp a=some (.lst vs))(hl:vs.length≤lim):rC [.ref a] Q XE hp=Q (.tup vs) hp:=by
 exact(wg.trans (exOf (listOf_ref h1))).trans (propext (and_iff_right hl))
theorem vb{a:Addr}{vs:List V}{k:Nat}{v:V}{K:Hp→Prop}(h1:hp a=some (.lst vs))(hk:k<vs.length)(hl:vs.length≤lim):rD (.ref a) (.int k) v K hp=K (upd hp a (.lst (vs.set k v))):=by
 refine propext ⟨λq=>?_,λq=>⟨_,_,rfl,rfl,?_⟩⟩
 ·obtain⟨b,j,e,e',q⟩:=q;cases e;cases e';rw[h1]at q;exact q.2.2.2
 ·rw[h1];exact⟨bk k,iL.mpr hk,hl,q⟩
end
noncomputable def nxt(b:DS)(Q:Fw→aZ→Hp→Prop)(X:XS):Fw→aZ→Hp→Prop:=λw l h=>match w with| .next=>b Q X l h|w=>Q w l h
theorem us{α:Type}{f:Nat→Option α}{i:Nat}{v:α}:upd f i v i=some v:=upd_same ..
section
variable{a b:DS}{Q:Fw→aZ→Hp→Prop}{X:XS}{l:aZ}{hp:Hp}
theorem sq(h:a (nxt b Q X) X l hp):ay a b Q X l hp:=h
theorem nx(h:b Q X l hp):nxt b Q X .next l hp:=h
theorem yH{v:V}(h:Q (.ret v) l hp):nxt b Q X (.ret v) l hp:=h
theorem nsq{c:DS}(h:a (nxt c Q X) X l hp):nxt (ay a c) Q X .next l hp:=h
end
theorem AC{Q:Fw→aZ→Hp→Prop}{X:XS}{l:aZ}{hp:Hp}(h:Q .next l hp):nxt aB Q X .next l hp:=h
theorem A3{i:Nat}{v:V}{Q:Fw→aZ→Hp→Prop}{X:XS}{loc:aZ}{hp:Hp}(q:Q .next (upd loc i v) hp):bE (aJ v) (aG i) Q X loc hp:=q
theorem rv{o:Option V}{x:V}{K:V→Prop}(h:o=some x)(q:K x):∃v,o=some v∧K v:=⟨x,h,q⟩
theorem xb{b:Bool}{K:Bool→Prop}(q:K b):∃c,V.bool b= .bool c∧K c:=⟨b,rfl,q⟩
theorem iT{c a b:Prop}[Decidable c](h:c)(q:a):if c then a else b:=by rw[if_pos h];exact q
theorem iF{c a b:Prop}[Decidable c](h:¬c)(q:b):if c then a else b:=by rw[if_neg h];exact q
theorem E3{A B:Hp→Prop}{X:XA}{loc:aZ}{hp:Hp}(q:A hp):fNone (λb hp=>if b=true then A hp else B hp) X loc hp:=by
 rw[zG,if_pos rfl];exact q
section
variable{Q:V→Hp→Prop}{X:XA}{hp:Hp}{a:List V}{k:Int}{ns:List Int}{r:Addr}
theorem gv{Q:aZ→Hp→Prop}{X:XS}{loc:aZ}{i:Nat}{v:V}(q:Q (upd loc i v) hp):aG i v Q X loc hp:=q
theorem cn{Q:V→Hp→Prop}{X:XA}{loc:aZ}{hp:Hp}{v:V}(q:Q v hp):aJ v Q X loc hp:=q
theorem nl{Q:List V→Hp→Prop}{X:XA}{loc:aZ}{hp:Hp}(q:Q [] hp):aF Q X loc hp:=q
theorem CZ{Q:aZ→Hp→Prop}{X:XS}{loc:aZ}{hp:Hp}{i j:Nat}{u w:V}(q:Q (upd (upd loc i u) j w) hp):ij ([i,j].map aG) (.tup [u,w]) Q X loc hp:=⟨_,rfl,q⟩
theorem CY{Q:aZ→Hp→Prop}{X:XS}{loc:aZ}{hp:Hp}{i j k:Nat}{u w y:V}(q:Q (upd (upd (upd loc i u) j w) k y) hp):ij ([i,j,k].map aG) (.tup [u,w,y]) Q X loc hp:=⟨_,rfl,q⟩
theorem BC{es:List (Int×V)}{ep:Nat}{v:V}(h:hp r=some (.dict es ep))(hv:eAt es k=some v)(q:Q v hp):dJ (.ref r) (.int k) Q hp:=(item_dict h hv).mpr q
theorem FA{C:Addr}{k:Nat}{vs:List (Option V)}{v:V}(h:hp r=some (.sl C vs))(hv:vs[k]?=some (some v))(n:j4 v=true)(q:Q v hp):gh C k (.ref r) Q hp:=(sl_ref h hv n).mpr q
theorem FK{C d:Addr}{i:Nat}{fs:List (Nat×V)}{v:V}(h:hp r=some (.inst C d))(h2:hp d=some (.ns fs))(hv:fs.lookup i=some v)(n:j4 v=true)(q:Q v hp):bn C i (.ref r) Q hp:=(at_ref h h2 hv n).mpr q
theorem FH(q:a.length≤lim∧Q (.int a.length) hp):iK [.lst a] Q X hp:=zI.mpr q
theorem DR(q:Q (.rng 0 k) hp):d4 [.int k] Q X hp:=vD.mpr q
theorem DZ{j:Int}(q:Q (.int (j+k)) hp):d9 (.int j) (.int k) Q hp:=q
theorem E1(q:a.length≤lim∧∃v,d0 a k=some v∧Q v hp):dJ (.lst a) (.int k) Q hp:=x9.mpr q
theorem FJ{l u st:V}(q:∃lo hi k,a.length≤lim∧i4 l=some lo∧i4 u=some hi∧i4 st=some k∧k≠some 0∧Q (.lst (pw a lo hi k)) hp):yO (.lst a) l u st Q hp:=zL.mpr q
theorem srt(q:ns.length<64∧Q (.lst ((fU ns).map .int)) hp):qC [.lst (ns.map .int)] Q X hp:=x8.mpr q
theorem FL{b:List V}(q:a.length+b.length≤lim∧Q (.lst (a++b)) hp):d9 (.lst a) (.lst b) Q hp:=uw.mpr q
theorem FG(h:hp r=some (.lst a))(hl:a.length≤lim)(q:Q (.int a.length) hp):iK [.ref r] Q X hp:=(len_ref h hl).mpr q
end
noncomputable def Grow(hp hp':Hp):Prop:=∀a o,hp a=some o→hp' a=some o
theorem Grow.refl(hp:Hp):Grow hp hp:=λz z h=>h
theorem Grow.trans{a b c:Hp}(x:Grow a b)(y:Grow b c):Grow a c:=λz z h=>y _ _ (x _ _ h)
theorem Grow.new{hp:Hp}{a:Addr}{o:O}(h:hp a=ac):Grow hp (upd hp a o):=λb ob e=>by
 rw[upd_ne];exact e
 rintro rfl;rw[h]at e;cases e
theorem Grow.upd{hp hp':Hp}{a:Addr}{o:O}(x:Grow hp hp')(h:hp a=ac):Grow hp (upd hp' a o):=λb ob e=>by
 rw[upd_ne];exact x _ _ e
 rintro rfl;rw[h]at e;cases e
theorem Grow.del{hp hp':Hp}{a:Addr}(x:Grow hp hp')(h:hp a=ac):Grow hp (del hp' a):=λb ob e=>by
 rw[del_ne];exact x _ _ e
 rintro rfl;rw[h]at e;cases e
theorem Grow.back{hp hp':Hp}{a:Addr}(x:Grow hp hp')(h:hp' a=ac):hp a=ac:=by
 cases q:hp a with
 |none=>rfl
 |some o=>have:=x _ _ q;rw[h]at this;cases this
theorem lim2(n:Nat)(h:n≤1000):n≤lim:=ae h (of_decide_eq_true rfl)
theorem lim4{n:Nat}(h:n≤10001):n≤lim:=ae h (of_decide_eq_true rfl)
theorem D8{n:Nat}(h:n≤999999):n≤lim:=ae h (of_decide_eq_true rfl)
theorem zM(vs:List V):∀(n m:Nat),m+n≤vs.length→(aV n).filterMap ((λx=>vs[x]?)∘λx=>m+x)=(vs.drop m).take n:=by
 intro n
 induction n with
 |zero=>intro m _;rfl
 |succ n ih=>
  intro m hm
  rw[zV,List.filterMap_append,ih m (c7 hm),List.take_add_one]
  congr 1
  have:m+n<vs.length:=hm
  simp[au this]
theorem r8(n k:Nat):clipAt n (k:Int)=min k n:=by
 unfold clipAt
 rw[if_neg (xk.mpr (bk k))]
 rcases CJ k n with h|h
 ·rw[pD (bI.mpr h),d6 (bk _),a9,iE h]
 ·rw[oZ (bI.mpr h),d6 (bk _),a9,jZ h]
theorem cut_core(vs:List V){lo hi:Option Int}{a b:Nat}(ha:lo.elim 0 (clipAt vs.length)=a)(hb:hi.elim vs.length (clipAt vs.length)=b)(h:a≤b)(h2:b≤vs.length):pw vs lo hi ac=(vs.take b).drop a:=by
 unfold pw
 rw[sliceBounds_plain]
 simp only[]
 rw[sliceRange_one,ha,hb,List.filterMap_map,zM _ _ _ (by rw[nv h];exact h2),List.drop_take]
theorem yg(vs:List V)(k:Nat):pw vs ac (some (k:Int)) ac=vs.take k:=
 (cut_core vs (lo:=ac) (hi:=some (k:Int)) rfl (r8 _ _) (aD _) (zS _ _)).trans List.take_eq_take_min.symm
theorem yh(vs:List V)(k:Nat):pw vs (some (k:Int)) ac ac=vs.drop k:=by
 rw[cut_core vs (lo:=some (k:Int)) (hi:=ac) (b:=vs.length) (r8 _ _) rfl (zS _ _) (bx _),List.take_length]
 by_cases h:k≤vs.length
 ·rw[iE h]
 ·have h:=fw h
  rw[jZ h,List.drop_of_length_le h,jS]
theorem oH{α:Type}(enc:α→V)(p:α→Bool)(g:α→V){v:V}{hp0:Hp}{t:DA}{f:DT}{inner:CD}{K:List V→Hp→Prop}{loc:aZ}:∀(xs:List α)(acc:List V)(hp:Hp),acc.length+xs.length≤lim→same v hp0 hp→
 (∀x∈xs,∀(acc:List V),acc.length≤lim→∀(R:List V→Hp→Prop),R (if p x then acc++[g x]else acc) hp→
  t (enc x) (λloc1 hp2=>f (λb hp3=>if b then inner R acc loc1 hp3 else R acc hp3) noXA loc1 hp2) pn loc hp)→
 K (acc++(xs.filter p).map g) hp→mj v hp0 t f inner K (xs.map enc) acc loc hp:=by
 intro xs_
 induction xs_ with
 |nil=>
  intro acc hp _ _ _ h
  simpa[cLpN]using h
 |cons x xs ih=>
  intro acc hp hl hs st h
  rw[ao,AW]
  have hl':acc.length+(xs.length+1)≤lim:=hl
  refine st x ai acc (ae (ba _ _) hl') (λacc' hp3=>same v hp0 hp3∧mj v hp0 t f inner K (xs.map enc) acc' loc hp3) ⟨hs,?_⟩
  refine ih _ hp ?_ hs (λu' hu=>st u' (am _ hu)) ?_
  ·split
   ·exact y6 hl'
   ·exact c7 hl'
  ·rw[aQ]at h
   split
   ·rename_i c;simpa[c]using h
   ·rename_i c;simpa[c]using h
theorem rng_small{lo hi:Int}(h: -(2 ^ 40)<lo)(h2:hi<2 ^ 40)(h3:lo≤hi):cS lo hi 1=true:=by
 simp[cS,cK,CX]
 have a: -9223372036854775808≤lo:=dy (by decide) (nu h)
 have b:hi<9223372036854775808:=CK h2 (by decide)
 refine⟨⟨⟨⟨a,yw h3 b⟩,dy a h3,b⟩,?_⟩,.inr ⟨dy a h3,b⟩⟩
 split
 ·exact⟨dy (by decide) (vY h3),CK (Int.sub_lt_sub h2 h) (by decide)⟩
 ·exact⟨by decide,by decide⟩
theorem j9{hp:Hp}{lo hi:Int}(h: -(2 ^ 40)<lo)(h2:hi<2 ^ 40):dp hp (.rng lo hi)=some (dK lo hi):=if_pos ((tx lo hi).imp (rng_small h h2) id)
theorem qE(n:Nat):dK 0 n=(aV n).map λk=>.int (k:Nat):=by
 unfold dK
 simp
noncomputable def cl:List Nat→Nat
 | []=>0
 |r::rs=>max (r+1) (cl rs)
noncomputable def cnt(rows:List Nat):List Int:=(aV (cl rows)).map λj=>(rows.count j:Int)
noncomputable def nOf(rows:List Nat)(b:Nat):Nat:=(rows.map (·+1)).sum+b
noncomputable def parse:List Nat→List Nat→Nat→List Nat×Nat
 | [],rows,b=>(rows,b)
 |c::l,rows,b=>if c=32 then parse l rows (b+1)else if c=9 then parse l (rows++[b]) 0 else(rows,b)
theorem vK(rows rs:List Nat):cl (rows++rs)=max (cl rows) (cl rs):=by
 induction rows with
 |nil=>simp[cl]
 |cons r rows ih=>rw[cM,cl,cl,ih,Nat.max_assoc]
theorem cl_snoc(rows:List Nat)(b:Nat):cl (rows++[b])=max (cl rows) (b+1):=by simp[vK,cl]
theorem cl_le:∀(rows:List Nat)(r:Nat),r∈rows→r+1≤cl rows:=by
 intro xs_
 induction xs_ with
 |nil=>
  intros;simp_all
 |cons r' rows ih=>
  intro r h
  simp only[cl]
  rcases ah.mp h with h|h
  ·subst h;exact kJ _ _
  ·exact ae (ih r h) (fA _ _)
theorem cnt_len(rows:List Nat):(cnt rows).length=cl rows:=by simp[cnt]
theorem ym{rows:List Nat}{b:Nat}{c:List Int}(hl:c.length=max (cl rows) (b+1))(hc:∀j x,c[j]?=some x→x=(rows.count j:Int)){x:Int}(hx:c[b]?=some x):c.set b (x+1)=cnt (rows++[b]):=by
 apply yv
 intro j
 unfold cnt
 rw[cl_snoc,←hl,b9]
 by_cases hj:j<c.length
 ·rw[dj hj]
  by_cases q:b=j
  ·subst q
   rw[List.getElem?_set_self hj,hc b x hx]
   simp
  ·rw[List.getElem?_set_ne q]
   have:=hc j c[j] (au hj)
   rw[au hj,this]
   simp[jl,dP,q]
 ·rw[bH (by simpa using hj)]
  rw[bH (by simpa using hj)];rfl
theorem uF{rows:List Nat}{j:Nat}{x:Int}(h:(cnt rows)[j]?=some x):x=(rows.count j:Int):=by
 unfold cnt at h
 rw[b9]at h
 by_cases hj:j<cl rows
 ·rw[dj hj]at h;simpa using h.symm
 ·rw[bH (by simpa using hj)]at h;cases h
theorem count_big{rows:List Nat}{j:Nat}(h:cl rows≤j):rows.count j=0:=by
 apply ed.mpr
 intro hm
 exact hM _ (ae (cl_le rows j hm) h)
theorem cnt_pad{rows:List Nat}{k j:Nat}{x:Int}(h:(cnt rows++ar k 0)[j]?=some x):x=(rows.count j:Int):=by
 by_cases hj:j<(cnt rows).length
 ·rw[List.getElem?_append_left hj]at h;exact uF h
 ·rw[List.getElem?_append_right (cz hj)]at h
  rw[count_big (by rw[cnt_len]at hj;exact cz hj)]
  have:=uO h
  simp at this
  simp[this.2]
theorem wL(rows:List Nat)(b:Nat):nOf rows (b+1)=nOf rows b+1:=rfl
theorem qF(rows:List Nat)(b:Nat):nOf (rows++[b]) 0=nOf rows b+1:=by unfold nOf;rw[bQ,zU];rfl
theorem wU{Q:V→Hp→Prop}{hp:Hp}{c d:Nat}(hc:c<128)(hd:d<128):nZ (.str [c]) (.str [d]) Q hp=Q (.bool (decide (c=d))) hp:=by
 have e:cf (.str ⟨[c].toArray⟩) (.str ⟨[d].toArray⟩)=decide (c=d):=by
  show((⟨[c].toArray⟩:Str)==⟨[d].toArray⟩)=_
  by_cases h:c=d
  ·subst h;simp
  ·simp[h]
 have sh:∀c,c<128→bu (.str ⟨[c].toArray⟩)=true:=by
  intro c h
  simp[bu,dD,eX,At]
  first|exact aA h (by decide)|exact ae (dx h) (by decide)
 apply propext;constructor
 ·rintro⟨x,y,h1,h2,_,_,h⟩
  cases h1;cases h2;rw[←e];exact h
 ·intro h;exact⟨_,_,rfl,rfl,sh c hc,sh d hd,by rw[e];exact h⟩
structure WI(hpI:Hp)(x dd:Addr)(raw:List Nat)(rows:List Nat)(b:Nat)(loc:aZ)(hp:Hp)(a:Addr):Prop where
 l0:loc 0=some (.ref x)
 l27:loc 27=some (.str [32])
 l28:loc 28=some (.str [9])
 l29:loc 29=some (.ref a)
 l30:loc 30=some (.int b)
 l31:loc 31=some (.int (nOf rows b))
 l32:loc 32=some (.int rows.length)
 ha:hp a=some (.lst ((cnt rows).map .int))
 na:hpI a=ac
 gr:Grow hpI hp
theorem qw{i:Nat}{n:Int}{Q:Fw→aZ→Hp→Prop}{X:XS}{loc:aZ}{hp:Hp}(h:loc i=some (.int n))(q:Q .next (upd loc i (.int (n+1))) hp):bE (bK d9 (ap i) (aJ (.int 1))) (aG i) Q X loc hp:=by
 rw[gO,fW,bV,rd h];exact q
theorem z4{i c k:Nat}{a b:DS}{Q:Fw→aZ→Hp→Prop}{X:XS}{loc:aZ}{hp:Hp}(hc:c<128)(hk:k<128)(h33:loc 33=some (.str [c]))(h:loc i=some (.str [k])):jX (cF nZ (ap 33) (ap i)) a b Q X loc hp=if c=k then a Q X loc hp else b Q X loc hp:=by
 simp only[pT,mA,bV,rd h33,rd h,wU hc hk,kB,decide_eq_true_eq]
theorem yZ{Q:Fw→aZ→Hp→Prop}{X:XS}{hpI hp:Hp}{a:Addr}{rows:List Nat}{b:Nat}{loc:aZ}(hb:b≤10000)(hz2:cl rows≤10000)(l29:loc 29=some (.ref a))(l30:loc 30=some (.int b))(ha:hp a=some (.lst ((cnt rows).map .int)))(na:hpI a=ac)(gr:Grow hpI hp)
 (q:∀loc' hp' a' (c:List Int),(∀i,i≠29→loc' i=loc i)→loc' 29=some (.ref a')→hp' a'=some (.lst (c.map .int))→c.length=max (cl rows) (b+1)→(∀j x,c[j]?=some x→x=(rows.count j:Int))→hpI a'=ac→Grow hpI hp'→Q .next loc' hp'):
 jX (cF (k4 λa b=>decide (b≤a)) (ap 30) (aS iK (av (ap 29) aF))) (ay (bE (bK wC (ap 29) (bK j7 (i3 (av (aJ (.int 0)) aF)) (bK d9 (bK (nk (·- ·)) (ap 30) (aS iK (av (ap 29) aF))) (aJ (.int 1))))) (aG 29)) aB) aB Q X loc hp:=by
 have hlim:((cnt rows).map V.int).length≤lim:=by rw[ak,cnt_len];exact lim4 (cG hz2)
 have hlen:((cnt rows).map V.int).length=cl rows:=by rw[ak,cnt_len]
 repeat first|refine rv l29 ?_|refine rv l30 ?_|refine FG ha hlim ?_|refine xb ?_|refine nl ?_
 try simp only[hlen,decide_eq_true_eq]
 split
 ·rename_i hge
  have hge':cl rows≤b:=bI.mp hge
  obtain⟨k,hk⟩:∃k:Nat,(b:Int) - (cl rows:Int)+1=(k:Int)∧cl rows+k=b+1:=⟨b - cl rows+1,congrArg (·+1) (Cc hge'),congrArg (·+1) (nv hge')⟩
  have hk5:cl rows+k≤10001:=ae (aT hk.2) (aR hb)
  have hk4:k≤10001:=ae (bZ _ _) hk5
  refine sq ?_
  simp only[gO,fW,bV,rd l29,rd l30,qA,eG,cr,e9,ek,len_ref ha hlim,hlen,qB,mB,zK,qz,hk.1]
  refine⟨lim2 _ (by decide),mU (by decide) (bk k),mU (iL.mpr (c0 hk4)) (by decide),by simp;exact lim4 hk4,(cnt rows).map .int,_,listOf_ref ha,rfl,by simp[cnt_len];exact lim4 hk5,λl hln=>AC ?_⟩
  refine q _ _ l (cnt rows++ar k 0) (λi hi=>upd_ne hi) us (us.trans ?_) ?_ (λj x h=>cnt_pad h) (gr.back hln) (gr.upd (gr.back hln))
  ·simp
  ·rw[aw,cJ,cnt_len,hk.2];exact(j0 (cG hge')).symm
 ·rename_i hlt
  exact q loc hp a (cnt rows) (λ_ _=>rfl) l29 ha (by rw[cnt_len];exact(kI (fu λz=>hlt (bI.mpr z))).symm) (λj x h=>uF h) na gr
theorem A4{Q:Fw→aZ→Hp→Prop}{X:XS}{hp:Hp}{a:Addr}{rows:List Nat}{b:Nat}{loc:aZ}{c:List Int}(hb:b≤10000)(hz2:cl rows≤10000)(l29:loc 29=some (.ref a))(l30:loc 30=some (.int b))(ha:hp a=some (.lst (c.map .int)))
 (hl:c.length=max (cl rows) (b+1))(hc:∀j x,c[j]?=some x→x=(rows.count j:Int))(q:Q .next loc (upd hp a (.lst ((cnt (rows++[b])).map .int)))):
 bE (bK d9 (bK dJ (ap 29) (ap 30)) (aJ (.int 1))) (lE (ap 29) (ap 30)) Q X loc hp:=by
 have hlim:(c.map V.int).length≤lim:=by rw[ak,hl];exact lim4 (i6.mpr ⟨cG hz2,aR hb⟩)
 have hbl:b<c.length:=ae (fA _ _) (aT hl.symm)
 have hi:d0 (c.map V.int) (b:Int)=some (.int c[b]):=by
  unfold d0
  rw[if_pos (bk b),a9,b9,au hbl];rfl
 rw[gO,fW,fW,bV,rd l29,bV,rd l30,item_list ha hlim hi,e9,mB,uq,bV,rd l29,bV,rd l30,vb ha (by rw[ak];exact hbl) hlim]
 rw[←ym hl hc (au hbl),List.map_set]at q
 exact q
theorem yX{R:Fw→aZ→Hp→Prop}{X:XS}{hpI hp:Hp}{x dd a:Addr}{raw rows:List Nat}{b c:Nat}{loc:aZ}(hc:c<128)(w:WI hpI x dd raw rows b loc hp a)(h33:loc 33=some (.str [c]))(hz:nOf rows b≤10000)
 (hz2:cl rows≤10000)
 (q:∀loc' hp' a',WI hpI x dd raw (if c=32 then rows else if c=9 then rows++[b]else rows) (if c=32 then b+1 else if c=9 then 0 else b) loc' hp' a'→R (if c=32∨c=9 then .next else .brk) loc' hp'):dQ R X loc hp:=by
 have hb:b≤10000:=ae (bZ _ _) hz
 unfold dQ
 refine sq ?_
 rw[z4 hc (by decide) h33 w.l27]
 by_cases c1:c=32
 ·refine iT c1 ?_
  rw[if_pos c1,if_pos c1,if_pos (.inl c1)]at q
  refine sq (qw w.l31 (nsq (qw ((upd_ne (by decide)).trans w.l30) (AC (AC ?_)))))
  have o:∀i,i≠31→i≠30→upd (upd loc 31 (.int (nOf rows b+1))) 30 (.int ((b:Int)+1)) i=loc i:=λi h1 h2=>(upd_ne h2).trans (upd_ne h1)
  exact q _ _ a ⟨(o _ (by decide) (by decide)).trans w.l0,(o _ (by decide) (by decide)).trans w.l27,(o _ (by decide) (by decide)).trans w.l28,(o _ (by decide) (by decide)).trans w.l29,us,(upd_ne (by decide)).trans (us.trans (by rw[wL];rfl)),(o _ (by decide) (by decide)).trans w.l32,w.ha,w.na,w.gr⟩
 ·refine iF c1 ?_
  rw[if_neg c1,if_neg c1]at q
  refine sq ?_
  rw[z4 hc (by decide) h33 w.l28]
  by_cases c2:c=9
  ·refine iT c2 ?_
   rw[if_pos c2,if_pos c2,if_pos (.inr c2)]at q
   refine sq (qw w.l31 (nsq (qw ((upd_ne (by decide)).trans w.l32) (nsq ?_))))
   have o:∀i,i≠31→i≠32→upd (upd loc 31 (.int (nOf rows b+1))) 32 (.int ((rows.length:Int)+1)) i=loc i:=λi h1 h2=>(upd_ne h2).trans (upd_ne h1)
   refine yZ hb hz2 ((o _ (by decide) (by decide)).trans w.l29) ((o _ (by decide) (by decide)).trans w.l30) w.ha w.na w.gr λloc1 hp1 a1 cc f f29 h1 h2 h3 h4 h5=>nsq ?_
   have o2:∀i,i≠29→i≠31→i≠32→loc1 i=loc i:=λi h0 h1 h2=>(f i h0).trans (o i h1 h2)
   refine A4 hb hz2 f29 ((o2 _ (by decide) (by decide) (by decide)).trans w.l30) h1 h2 h3 (nsq (A3 (AC (AC (AC ?_)))))
   have o3:∀i,i≠30→i≠29→i≠31→i≠32→upd loc1 30 (.int 0) i=loc i:=λi hh h0 h1 h2=>(upd_ne hh).trans (o2 i h0 h1 h2)
   exact q _ _ a1 ⟨(o3 _ (by decide) (by decide) (by decide) (by decide)).trans w.l0,(o3 _ (by decide) (by decide) (by decide) (by decide)).trans w.l27,(o3 _ (by decide) (by decide) (by decide) (by decide)).trans w.l28,(upd_ne (by decide)).trans f29,us,
    (upd_ne (by decide)).trans ((f _ (by decide)).trans ((upd_ne (by decide)).trans (us.trans (by rw[qF];rfl)))),(upd_ne (by decide)).trans ((f _ (by decide)).trans (us.trans (by rw[aw];rfl))),us,h4,h5.upd h4⟩
  ·refine iF c2 ?_
   rw[if_neg c2,if_neg c2,if_neg (λz=>z.elim c1 c2)]at q
   exact q _ _ a w
theorem lN:∀rows:List Nat,cl rows≤(rows.map (·+1)).sum:=by
 intro xs_
 induction xs_ with
 |nil=>
  simp[cl]
 |cons r rows ih=>
  simp only[cl,ao,bh];exact i6.mpr ⟨ba _ _,ae ih (bZ _ _)⟩
theorem yW{Q:Fw→aZ→Hp→Prop}{v:V}{hp0 hpI:Hp}{x dd:Addr}{raw:List Nat}(hv:∀h h',same v h h'):∀(l rows:List Nat)(b:Nat)(loc:aZ)(hp:Hp)(a:Addr),(∀c∈l,c<128)→nOf rows b+l.length≤10000→WI hpI x dd raw rows b loc hp a→
 (∀loc' hp' a',WI hpI x dd raw (parse l rows b).1 (parse l rows b).2 loc' hp' a'→Q .next loc' hp')→de v hp0 (aG 33) dQ Q (l.map λc=>.str [c]) loc hp:=by
 intro xs_
 induction xs_ with
 |nil=>
  intro rows b loc hp a _ _ w q
  exact q loc hp a w
 |cons c l ih=>
  intro rows b loc hp a h hz w q
  refine gv ?_
  simp only[aE]at hz
  have w':WI hpI x dd raw rows b (upd loc 33 (.str [c])) hp a:=⟨by simp[upd,w.l0],by simp[upd,w.l27],by simp[upd,w.l28],by simp[upd,w.l29],by simp[upd,w.l30],by simp[upd,w.l31],by simp[upd,w.l32],w.ha,w.na,w.gr⟩
  have hcl:=lN rows
  refine yX (c:=c) (h c ai) w' (by simp) (ae (ba _ _) hz) (ae hcl (ae (ba _ b) (ae (ba _ _) hz))) λloc' hp' a' w2=>?_
  have h':∀c∈l,c<128:=λd hd=>h d (am _ hd)
  by_cases c1:c=32
  ·simp only[c1,if_true,true_or]at w2⊢
   refine⟨hv _ _,ih rows (b+1) loc' hp' a' h' (by rw[wL,bj];exact hz) w2 λloc2 hp2 a2 w3=>q loc2 hp2 a2 ?_⟩
   simpa[parse,c1]using w3
  ·by_cases c2:c=9
   ·simp only[c1,c2,if_true,or_true,if_false]at w2⊢
    rw[if_neg (by decide),if_neg (by decide)]at w2
    refine⟨hv _ _,ih (rows++[b]) 0 loc' hp' a' h' (by rw[qF,bj];exact hz) w2 λloc2 hp2 a2 w3=>q loc2 hp2 a2 ?_⟩
    simpa[parse,c1,c2]using w3
   ·simp only[c1,c2,or_self,if_false]at w2⊢
    refine q loc' hp' a' ?_
    simpa[parse,c1,c2]using w2
noncomputable def wFs(l rows:List Nat)(b:Nat):List (Nat×V):=[(26,.str l),(31,.int (nOf rows b)),(32,.int rows.length),(34,.tup [.tup ((cnt rows).map .int),.int b]),(35,.bool (decide (cl rows≤1)))]
noncomputable def wObj(l rows:List Nat)(b:Nat):V:=.obj cW (wFs l rows b)
theorem vg:∀(l rows:List Nat)(b:Nat),nOf (parse l rows b).1 (parse l rows b).2≤nOf rows b+l.length:=by
 intro xs_
 induction xs_ with
 |nil=>
  intro rows b
  simp[parse]
 |cons c l ih=>
  intro rows b
  unfold parse
  split
  ·exact ae (ih rows (b+1)) (aT (bj _ 1 _))
  ·split
   ·have:=ih (rows++[b]) 0;rw[qF]at this;exact ae this (aT (bj _ 1 _))
   ·exact ba _ _
theorem qv{j:Nat}{v:V}{fs:List (Nat×V)}{Q:Fw→aZ→Hp→Prop}{X:XS}{loc:aZ}{Z:Hp}{x dd:Addr}{e:DE}(hne:x≠dd)(hx:Z x=some (.inst cW dd))(hl:fs.length≤10)(h0:loc 0=some (.ref x))
 (he:∀(K:V→Hp→Prop)(X:XA),e K X loc (upd Z dd (.ns fs))=K v (upd Z dd (.ns fs)))(q:Q .next loc (upd Z dd (.ns (ju fs j v)))):bE e (gB (dU cW j) (ap 0)) Q X loc (upd Z dd (.ns fs)):=by
 have uu:upd (upd Z dd (.ns fs)) dd (.ns (ju fs j v))=upd Z dd (.ns (ju fs j v)):=by funext k;simp only[upd];split<;>rfl
 rw[gO,he,wY,bV,rd h0,setA_ref ((upd_ne hne).trans hx) us (ae hl (by decide)),uu]
 exact q
theorem A0{Q:Fw→aZ→Hp→Prop}{X:XS}{loc:aZ}{hp:Hp}{x dd a:Addr}{l rows:List Nat}{b:Nat}(hne:x≠dd)(hax:a≠dd)(hcl:cl rows≤10000)
 (l0:loc 0=some (.ref x))(l29:loc 29=some (.ref a))(l30:loc 30=some (.int b))(l31:loc 31=some (.int (nOf rows b)))(l32:loc 32=some (.int rows.length))(hx:hp x=some (.inst cW dd))(hd:hp dd=some (.ns [(26,.str l)]))(ha:hp a=some (.lst ((cnt rows).map .int)))
 (q:Q .next loc (upd hp dd (.ns (wFs l rows b)))):
 ay (bE (ap 31) (gB (dU cW 31) (ap 0))) (ay (bE (ap 32) (gB (dU cW 32) (ap 0))) (ay (bE (rq (av (aS rC (av (ap 29) aF)) (av (ap 30) aF))) (gB (dU cW 34) (ap 0)))
  (ay (bE (bK (k4 λa b=>decide (a≤b)) (aS iK (av (ap 29) aF)) (aJ (.int 1))) (gB (dU cW 35) (ap 0))) aB))) Q X loc hp:=by
 have hlim:((cnt rows).map V.int).length≤lim:=by rw[ak,cnt_len];exact lim4 (cG hcl)
 have m3:∀o,(upd hp dd o) a=some (.lst ((cnt rows).map .int)):=λo=>(upd_ne hax).trans ha
 have e0:hp=upd hp dd (.ns [(26,.str l)]):=by
  funext k
  by_cases z:k=dd
  ·subst z;rw[us];exact hd
  ·rw[upd_ne z]
 rw[e0]
 refine sq (qv hne hx (of_decide_eq_true rfl) l0 (λK X=>by rw[bV,rd l31]) (nsq (qv hne hx (of_decide_eq_true rfl) l0 (λK X=>by rw[bV,rd l32]) (nsq (qv hne hx (of_decide_eq_true rfl) l0 (v:=.tup [.tup ((cnt rows).map .int),.int b]) (λK X=>?_) (nsq (qv hne hx (of_decide_eq_true rfl) l0 (v:=.bool (decide (cl rows≤1))) (λK X=>?_) (AC ?_))))))))
 ·simp only[Bo,cr,eG,bV,rd l29,rd l30,ek,rH (m3 _) hlim,aE,cm]
  exact propext (and_iff_right (lim2 _ (by decide)))
 ·simp only[fW,eG,cr,bV,rd l29,ek,len_ref (m3 _) hlim,e9,s7,ak,cnt_len]
  rw[show decide ((cl rows:Int)≤1)=decide (cl rows≤1)from decide_eq_decide.mpr bI]
 ·exact q
theorem AV{Q:V→Hp→Prop}{X:XA}{l:List Nat}{hp:Hp}(h:∀c∈l,c<128)(hl:l.length≤10000)(q:∀hp',Grow hp hp'→Q (wObj l (parse l [] 0).1 (parse l [] 0).2) hp'):i5 cW bw [.str l] Q X hp:=by
 intro x dd hx hd hne
 refine⟨[(0,.ref x),(25,.str l)],rfl,?_⟩
 unfold iY
 have o0:locOf [(0,V.ref x),(25,V.str l)] 0=some (.ref x):=rfl
 have o25:locOf [(0,V.ref x),(25,V.str l)] 25=some (.str l):=rfl
 generalize locOf [(0,V.ref x),(25,V.str l)]=lo at*
 have e1:(upd (upd hp dd (.ns [])) x (.inst cW dd)) x=some (.inst cW dd):=us
 have e2:(upd (upd hp dd (.ns [])) x (.inst cW dd)) dd=some (.ns []):=(upd_ne (aI hne)).trans us
 refine sq ?_
 rw[gO,bV,rd o25,wY,bV,rd o0,setA_ref e1 e2 (by simp)]
 generalize hh:upd (upd (upd hp dd (.ns [])) x (.inst cW dd)) dd (.ns (ju [] 26 (.str l)))=hpI
 have f1:hpI x=some (.inst cW dd):=by rw[←hh];exact(upd_ne hne).trans us
 have f2:hpI dd=some (.ns [(26,.str l)]):=by rw[←hh];exact us
 have f3:Grow hp hpI:=by
  intro b o e
  have n1:b≠dd:=by rintro rfl;rw[hd]at e;cases e
  have n2:b≠x:=by rintro rfl;rw[hx]at e;cases e
  rw[←hh,upd_ne n1,upd_ne n2,upd_ne n1];exact e
 clear hh e1 e2
 refine nsq ?_
 refine⟨lim2 _ (by decide),_,_,rfl,nsq ?_⟩
 refine⟨lim2 _ (by decide),λa ha=>?_⟩
 refine gv ?_
 refine nsq ?_
 repeat first|refine cn ?_|refine gv ?_
 generalize hl1:upd (upd (upd (upd (upd (upd lo 28 (.str [9])) 27 (.str [32])) 29 (.ref a)) 30 (.int 0)) 31 (.int 0)) 32 (.int 0)=lo1
 have w0:WI hpI x dd l [] 0 lo1 (upd hpI a (.lst [])) a:=by
  rw[←hl1]
  exact⟨by simp[upd,o0],by simp[upd],by simp[upd],by simp[upd],by simp[upd],by simp[upd,nOf],by simp[upd],us,ha,.new ha⟩
 clear hl1
 have nx1:x≠a:=by rintro rfl;rw[ha]at f1;cases f1
 have nx2:dd≠a:=by rintro rfl;rw[ha]at f2;cases f2
 refine nsq ?_
 have hit:dp (upd hpI a (.lst [])) (.str l)=some (l.map λc=>.str [c]):=by
  exact if_pos (by simpa using h)
 refine rv w0.l0 (FK ((upd_ne nx1).trans f1) ((upd_ne nx2).trans f2) (v:=.str l) rfl rfl ?_)
 rw[Cx hit]
 refine yW (hpI:=hpI) (x:=x) (dd:=dd) (raw:=l) (by simp) l [] 0 _ _ a h (ae (aT (aW _)) hl) w0 λloc' hp' a' w=>nx ?_
 have hn:=vg l [] 0
 generalize (parse l [] 0).1=rows at*
 generalize (parse l [] 0).2=b at*
 have hcl:cl rows≤10000:=ae (lN rows) (ae (ba _ b) (ae hn (ae (aT (aW _)) hl)))
 refine A0 hne (by rintro rfl;rw[w.na]at f2;cases f2) hcl w.l0 w.l29 w.l30 w.l31 w.l32 (w.gr _ _ f1) (w.gr _ _ f2) w.ha ?_
 have:=q (del (del (upd hp' dd (.ns (wFs l rows b))) x) dd) ((((f3.trans w.gr).upd hd).del hx).del hd)
 simpa[wObj,wFs,upd_ne hne]using ⟨w.gr _ _ f1,this⟩
theorem rI(a b:Nat):dK (a:Int) (b:Int)=(gU a (b - a)).map λj=>.int (j:Nat):=by
 unfold dK
 rw[Int.toNat_sub b a,List.range'_eq_map_range,aL]
 apply bo
 intro k _
 simp
theorem sm4{n:Nat}(h:n≤10000):small (n:Int):=⟨yK n (by decide),AD h (by decide)⟩
noncomputable def lv(rows:List Nat)(b t:Nat):Nat:=b+t*((rows.map λr=>r / t).sum+rows.length)
theorem xu:∀js:List Nat,(js.map λz=>0).sum=0:=by
 intro xs_
 induction xs_ with
 |nil=>
  exact rfl
 |cons j js ih=>
  simpa using ih
theorem A5(t:Nat):∀(rows js:List Nat),js.Nodup→(∀r∈rows,t≤r→r∈js)→(∀j∈js,t≤j)→(js.map λj=>j / t*rows.count j).sum=(rows.map λr=>r / t).sum:=by
 intro xs_
 induction xs_ with
 |nil=>
  intro js _ _ _
  simp only[List.count_nil,nq,gj,List.sum_nil]
  exact xu js
 |cons r rows IH=>
  intro js hn hm hj
  have ih:=IH js hn (λr hr=>hm r (am _ hr)) hj
  rw[ao,bh,←ih]
  have:∀js:List Nat,js.Nodup→(js.map λj=>j / t*(r::rows).count j).sum=(if r∈js then r / t else 0)+(js.map λj=>j / t*rows.count j).sum:=by
   intro js
   induction js with
   |nil=>simp
   |cons j js ih2=>
    intro hn
    rw[aC]at hn
    rw[ao,bh,ih2 hn.2,ao,bh,dP]
    by_cases e:r=j
    ·subst e
     simp only[beq_self_eq_true,if_true,ah,true_or]
     rw[if_neg hn.1,ph,u5,aW,ca (r / t*_),bN]
    ·have:(r==j)=false:=by simpa using e
     simp only[this,ah,e,false_or,cg,if_false,nr]
     exact Nat.add_left_comm _ _ _
  rw[this js hn]
  by_cases c:t≤r
  ·rw[if_pos (hm r ai c)]
  ·rw[if_neg (λh=>c (hj r h))]
   have:r / t=0:=zT (fu c)
   rw[this]
theorem zv{Q:Fw→aZ→Hp→Prop}{v:V}{hp0 hp:Hp}{rows:List Nat}{t:Nat}(hv:∀h h',same v h h')(ht:0<t)(hz:cl rows≤10000):∀(js:List Nat)(il:Nat)(loc:aZ),(∀j∈js,j<cl rows)→loc 29=some (.tup ((cnt rows).map .int))→loc 37=some (.int (t:Nat))→loc 38=some (.int (il:Nat))→
 (∀loc',(∀i,i≠18→i≠38→loc' i=loc i)→loc' 38=some (.int ((il+(js.map λj=>j / t*rows.count j).sum:Nat):Int))→Q .next loc' hp)→de v hp0 (aG 18) c9 Q (js.map λj=>.int (j:Nat)) loc hp:=by
 intro xs_
 induction xs_ with
 |nil=>
  intro il loc _ h29 h37 h38 q
  exact q loc (λz z z=>rfl) (by simpa using h38)
 |cons j js ih=>
  intro il loc hj h29 h37 h38 q
  refine gv ?_
  have hjc:=hj j ai
  have hi:d0 ((cnt rows).map V.int) (j:Int)=some (.int (rows.count j:Nat)):=by
   unfold d0
   rw[if_pos (bk j)]
   simp[cnt,dj hjc]
  have hlim:((cnt rows).map V.int).length≤lim:=by rw[ak,cnt_len];exact lim4 (cG hz)
  have hsm:j<1073741824:=aA hjc (ae hz (by decide))
  obtain⟨d,hd⟩:∃d,d=j / t:=⟨_,rfl⟩
  have hfd:(j:Int).fdiv (t:Int)=(d:Int):=by
   rw[Int.fdiv_eq_ediv_of_nonneg _ (bk t),hd];rfl
  have hdj:d≤j:=by rw[hd];exact Aw _ _
  have hsmall:small (d:Int):=sm4 (ae hdj (ae (dx hjc) hz))
  have htn:¬t=0:=gz ht
  simp[c9,↓rd h29,↓rd h37,↓rd h38,hi,hfd,htn,hsm,hsmall]
  refine⟨by simpa using hlim,hv _ _,?_⟩
  refine ih (il+d*rows.count j) _ (λk hk=>hj k (am _ hk)) (by simp[upd,h29]) (by simp[upd,h37]) rfl λloc' h1 h2=>q loc' (λi n1 n2=>by rw[h1 i n1 n2,upd_ne n2,upd_ne n1]) ?_
  rw[h2]
  simp only[ao,bh,←hd]
  rw[bN]
theorem nodup_range'(a n:Nat):(gU a n).Nodup:=List.nodup_range'
theorem xW(t:Nat)(ht:0<t):∀rows:List Nat,(rows.map λr=>r / t).sum+rows.length≤(rows.map (·+1)).sum:=by
 intro xs_
 induction xs_ with
 |nil=>
  simp
 |cons r rows ih=>
  rw[ao,ao,bh,bh,aE,ca rows.length 1,vT]
  exact qO (aR (Aw r t)) ih
theorem lO{Q:V→Hp→Prop}{X:XA}{hp:Hp}{l rows:List Nat}{b t:Nat}(ht:0<t)(hz:nOf rows b≤10000)(q:Q (.int (lv rows b t:Nat)) hp):aY [wObj l rows b,.int (t:Nat)] Q X hp:=by
 refine⟨[(0,wObj l rows b),(37,.int (t:Nat))],rfl,?_⟩
 have hcl:=lN rows
 have hcl':cl rows≤10000:=ae hcl (ae (ba _ b) hz)
 have hlim:((cnt rows).map V.int).length≤lim:=by rw[ak,cnt_len];exact lim4 (cG hcl')
 have a34:∀(Q:V→Hp→Prop) hp,bn cW 34 (wObj l rows b) Q hp=Q (.tup [.tup ((cnt rows).map .int),.int b]) hp:=λQ hp=>mF rfl rfl
 have a32:∀(Q:V→Hp→Prop) hp,bn cW 32 (wObj l rows b) Q hp=Q (.int rows.length) hp:=λQ hp=>mF rfl rfl
 have hit:dp hp (.rng (t:Nat) (((cnt rows).map V.int).length:Nat))=some ((gU t (cl rows - t)).map λj=>.int (j:Nat)):=by
  rw[j9 (yK t (by decide)) (by rw[ak,cnt_len];exact AD hcl' (by decide))]
  rw[show((cnt rows).map V.int).length=cl rows by simp[cnt_len],rI]
 simp[e7,↓a34,↓a32]
 refine⟨by simpa using hlim,?_⟩
 simp only[ak]at hit
 refine⟨_,hit,?_⟩
 refine zv (rows:=rows) (t:=t) (by simp) ht hcl' _ 0 _ ?_ rfl rfl (by simp) λloc' h1 h2=>?_
 ·intro j hj
  exact rin (eQ.mp hj)
 ·have hs:=A5 t rows (gU t (cl rows - t)) (nodup_range' _ _) (λr hr hle=>eQ.mpr (rin2 hle (cl_le rows r hr))) (λj hj=>by rw[eQ]at hj;exact hj.1)
  rw[hs]at h2
  have e36:loc' 36=some (.int b):=by rw[h1 36 (by decide) (by decide)];simp[upd]
  have e37:loc' 37=some (.int (t:Nat)):=by rw[h1 37 (by decide) (by decide)];simp[upd,locOf_cons]
  have e0:loc' 0=some (wObj l rows b):=by rw[h1 0 (by decide) (by decide)];simp[upd,locOf_cons]
  have hb:=xW t ht rows
  unfold lv at q
  obtain⟨d,hd⟩:∃d,d=(rows.map λr=>r / t).sum:=⟨_,rfl⟩
  rw[←hd]at h2 hb q
  have hsmall:small ((d+rows.length:Nat):Int):=sm4 (ae hb (ae (ba _ b) hz))
  simp[rd e36,rd e37,rd h2,rd e0,a32]
  refine⟨.inr (by simpa using hsmall),?_⟩
  simpa using q
noncomputable def longN(rows:List Nat)(b:Nat):Nat:=max (cl rows - 1) b
theorem xe{Q:V→Hp→Prop}{X:XA}{hp:Hp}{l rows:List Nat}{b:Nat}(hz:nOf rows b≤10000)(q:Q (.int (longN rows b:Nat)) hp):aO [wObj l rows b] Q X hp:=by
 refine⟨[(0,wObj l rows b)],rfl,?_⟩
 have hcl:=lN rows
 have hlim:cl rows≤lim:=lim4 (cG (ae hcl (ae (ba _ b) hz)))
 have a34:∀(Q:V→Hp→Prop) hp,bn cW 34 (wObj l rows b) Q hp=Q (.tup [.tup ((cnt rows).map .int),.int b]) hp:=λQ hp=>mF rfl rfl
 simp[dB,↓a34,cnt_len,hlim]
 have:((longN rows b:Nat):Int)=max ((cl rows:Int) - 1) b:=xH _ _
 rwa[this]at q
noncomputable def topN(r1:List Nat)(b1:Nat)(r2:List Nat)(b2:Nat):Nat:=max (longN r1 b1) (longN r2 b2)+1
noncomputable def fN(r1:List Nat)(b1:Nat)(r2:List Nat)(b2:Nat):Bool:=
 if nOf r2 b2≤nOf r1 b1 then false else if cl r1≤1∧cl r2≤1 then decide (r1.length≤r2.length)
 else(gU 2 (topN r1 b1 r2 b2 - 1)).all λt=>decide (lv r1 b1 t<lv r2 b2 t)
theorem DV{l rows:List Nat}{b j:Nat}{hp:Hp}(hj:j=42∨j=40∨j=87):cw cW j hp (wObj l rows b):=by
 refine⟨rfl,?_⟩
 rcases hj with rfl|rfl|rfl<;>simp[wFs]
theorem less_body{R:Fw→aZ→Hp→Prop}{X:XS}{hp:Hp}{l1 r1 l2 r2:List Nat}{b1 b2 j:Nat}{loc:aZ}(h1:nOf r1 b1≤10000)(h2:nOf r2 b2≤10000)(hj:0<j)(e0:loc 0=some (wObj l1 r1 b1))(e39:loc 39=some (wObj l2 r2 b2))(e41:loc 41=some (.int (j:Nat)))
 (q:R (if lv r1 b1 j<lv r2 b2 j then .next else .ret (.bool false)) loc hp):cZ R X loc hp:=by
 simp[cZ,↓rd e0,↓rd e39,↓rd e41,DV, -cy]
 refine lO hj h1 (lO hj h2 ?_)
 repeat refine xb ?_
 by_cases c:lv r1 b1 j<lv r2 b2 j
 ·rw[if_pos c]at q
  rw[if_neg (by simp;first|exact c|exact iL.mpr c)];exact q
 ·rw[if_neg c]at q
  rw[if_pos (by simp;first|exact cz c|exact bI.mpr (cz c))];exact q
theorem vj{Q:Fw→aZ→Hp→Prop}{v:V}{hp0 hp:Hp}{l1 r1 l2 r2:List Nat}{b1 b2:Nat}(hv:∀h h',same v h h')(h1:nOf r1 b1≤10000)(h2:nOf r2 b2≤10000):∀(js:List Nat)(loc:aZ),(∀j∈js,0<j)→loc 0=some (wObj l1 r1 b1)→loc 39=some (wObj l2 r2 b2)→
 ((js.all λt=>decide (lv r1 b1 t<lv r2 b2 t))=true→∀loc',Q .next loc' hp)→((js.all λt=>decide (lv r1 b1 t<lv r2 b2 t))=false→∀loc',Q (.ret (.bool false)) loc' hp)→de v hp0 (aG 41) cZ Q (js.map λj=>.int (j:Nat)) loc hp:=by
 intro xs_
 induction xs_ with
 |nil=>
  intro loc _ e0 e39 q q2
  exact q rfl loc
 |cons j js ih=>
  intro loc hj e0 e39 q q2
  refine gv ?_
  refine less_body (l1:=l1) (l2:=l2) (j:=j) h1 h2 (hj j ai) (by simp[upd,e0]) (by simp[upd,e39]) (by simp) ?_
  by_cases c:lv r1 b1 j<lv r2 b2 j
  ·rw[if_pos c]
   refine⟨hv _ _,ih _ (λk hk=>hj k (am _ hk)) (by simp[upd,e0]) (by simp[upd,e39]) (λh=>q ?_) (λh=>q2 ?_)⟩
   ·rw[lW,h];simpa using c
   ·rw[lW,h];simp
  ·rw[if_neg c]
   refine q2 ?_ _
   rw[lW];simp[c]
theorem rN{rows:List Nat}{b:Nat}(h:nOf rows b≤10000):longN rows b≤10000:=
 i6.mpr ⟨ae (xj _ _) (ae (ae (lN rows) (ba _ b)) h),ae (bZ b _) h⟩
theorem cl_top{Q:Fw→aZ→Hp→Prop}{X:XS}{hp:Hp}{loc:aZ}{l1 r1 l2 r2:List Nat}{b1 b2:Nat}(h1:nOf r1 b1≤10000)(h2:nOf r2 b2≤10000)(e0:loc 0=some (wObj l1 r1 b1))(e39:loc 39=some (wObj l2 r2 b2))
 (q:Q .next (upd loc 31 (.int (topN r1 b1 r2 b2:Nat))) hp):
 bE (bK d9 (aS pU (av (b7 (cw cW 40) aO (ap 0) aF) (av (b7 (cw cW 40) aO (ap 39) aF) aF))) (aJ (.int 1))) (aG 31) Q X loc hp:=by
 simp only[gO,fW,eG,cr,nS,bV,rd e0,rd e39,ek]
 refine⟨DV (.inr (.inl rfl)),xe h1 ⟨DV (.inr (.inl rfl)),xe h2 ?_⟩⟩
 rw[ur,e9,mB,qz,zf]
 exact q
theorem cl_loop{Q:Fw→aZ→Hp→Prop}{X:XS}{hp:Hp}{loc:aZ}{l1 r1 l2 r2:List Nat}{b1 b2 n:Nat}(h1:nOf r1 b1≤10000)(h2:nOf r2 b2≤10000)(hn:n≤10000)(e0:loc 0=some (wObj l1 r1 b1))(e39:loc 39=some (wObj l2 r2 b2))(e31:loc 31=some (.int ((n+1:Nat):Int)))
 (qt:((gU 2 n).all λt=>decide (lv r1 b1 t<lv r2 b2 t))=true→∀loc',Q .next loc' hp)(qf:((gU 2 n).all λt=>decide (lv r1 b1 t<lv r2 b2 t))=false→∀loc',Q (.ret (.bool false)) loc' hp):
 jr (aS lM (av (aJ (.int 2)) (av (bK d9 (ap 31) (aJ (.int 1))) aF))) (aG 41) cZ Q X loc hp:=by
 rw[wW,eG,cr,e9,cr,fW,bV,rd e31,e9,mB,ek,vC]
 rw[show((n+1:Nat):Int)+1=((n+2:Nat):Int)from rfl]
 refine⟨_,j9 (by decide) (AD (cB hn 2) (by decide)),?_⟩
 rw[show(2:Int)=((2:Nat):Int)from rfl,rI]
 exact vj (by simp) h1 h2 _ _ (λj hj=>aA Nat.two_pos (eQ.mp hj).1) e0 e39 qt qf
theorem cl_simple{a b:DS}{Q:Fw→aZ→Hp→Prop}{X:XS}{hp:Hp}{loc:aZ}{l1 r1 l2 r2:List Nat}{b1 b2:Nat}(e0:loc 0=some (wObj l1 r1 b1))(e39:loc 39=some (wObj l2 r2 b2)):
 jX (ni (kL (bU (bn cW 35) (ap 0))) (ni (kL (bU (bn cW 35) (ap 39))) (λQ z z hp=>Q true hp))) a b Q X loc hp=if cl r1≤1∧cl r2≤1 then a Q X loc hp else b Q X loc hp:=by
 have a35:∀l rows b (Q:V→Hp→Prop) hp,bn cW 35 (wObj l rows b) Q hp=Q (.bool (decide (cl rows≤1))) hp:=λl rows b Q hp=>mF rfl rfl
 simp only[pT,Bk,Bj,jz,bV,rd e0,rd e39,a35,y0]
 by_cases c1:cl r1≤1<;>by_cases c2:cl r2≤1<;>simp[c1,c2]
theorem tj{Q:V→Hp→Prop}{X:XA}{hp:Hp}{l1 r1 l2 r2:List Nat}{b1 b2:Nat}(h1:nOf r1 b1≤10000)(h2:nOf r2 b2≤10000)(q:Q (.bool (fN r1 b1 r2 b2)) hp):cC [wObj l1 r1 b1,wObj l2 r2 b2] Q X hp:=by
 refine⟨[(0,wObj l1 r1 b1),(39,wObj l2 r2 b2)],rfl,?_⟩
 have a31:∀l rows b (Q:V→Hp→Prop) hp,bn cW 31 (wObj l rows b) Q hp=Q (.int (nOf rows b:Nat)) hp:=λl rows b Q hp=>mF rfl rfl
 have a32:∀l rows b (Q:V→Hp→Prop) hp,bn cW 32 (wObj l rows b) Q hp=Q (.int rows.length) hp:=λl rows b Q hp=>mF rfl rfl
 have o0:locOf [(0,wObj l1 r1 b1),(39,wObj l2 r2 b2)] 0=some (wObj l1 r1 b1):=rfl
 have o39:locOf [(0,wObj l1 r1 b1),(39,wObj l2 r2 b2)] 39=some (wObj l2 r2 b2):=rfl
 generalize locOf [(0,wObj l1 r1 b1),(39,wObj l2 r2 b2)]=lo at*
 unfold fN at q
 unfold iX
 refine sq ?_
 simp only[pT,mA,jz,bV,rd o0,rd o39,a31,s7,kB,decide_eq_true_eq,bI]
 split
 ·rename_i c;rw[if_pos c]at q;exact q
 ·rename_i c
  rw[if_neg c]at q
  show nxt _ _ _ .next _ _
  refine nsq ?_
  rw[cl_simple o0 o39]
  split
  ·rename_i c2
   rw[if_pos c2]at q
   refine sq ?_
   rw[Bl,fW,jz,bV,rd o0,a32,jz,bV,rd o39,a32,s7]
   simp only[bI]
   exact q
  ·rename_i cc
   rw[if_neg cc]at q
   show nxt _ _ _ .next _ _
   refine nsq (cl_top h1 h2 o0 o39 (nsq (cl_loop h1 h2 (n:=max (longN r1 b1) (longN r2 b2)) (i6.mpr ⟨rN h1,rN h2⟩) ((upd_ne (by decide)).trans o0) ((upd_ne (by decide)).trans o39) us (λh loc'=>nsq ?_) λh loc'=>?_)))
   ·rw[show topN r1 b1 r2 b2 - 1=max (longN r1 b1) (longN r2 b2)from rfl,h]at q;exact q
   ·rw[show topN r1 b1 r2 b2 - 1=max (longN r1 b1) (longN r2 b2)from rfl,h]at q;exact q
section
variable{α:Type}{v:V}{hp0 hp:Hp}{loc:aZ}{i n:Nat}{e src:DE}{f:DT}{K:List V→Hp→Prop}{Q:V→Hp→Prop}{X:XA}{fr:List Nat}(enc g:α→V)(p:α→Bool){xs:List α}
theorem sK(hz:xs.length≤1000)(hs:same v hp0 hp)(tst:∀x∈xs,∀R:Bool→Hp→Prop,R (p x) hp→f R noXA (upd loc i (enc x)) hp)
 (st:∀x∈xs,p x=true→∀R:V→Hp→Prop,R (g x) hp→e R noXA (upd loc i (enc x)) hp)(q:K ((xs.filter p).map g) hp):mj v hp0 (aG i) f (eM e) K (xs.map enc) [] loc hp:=by
 refine oH enc p g xs [] hp (by rw[cm,aW];exact lim2 _ hz) hs (λx hx acc ha R hR=>gv (tst x hx _ ?_)) q
 cases c:p x with
 |true=>rw[c,if_pos rfl]at hR;exact iT rfl ⟨ha,st x hx c _ hR⟩
 |false=>rw[c,if_neg aH]at hR;exact iF aH hR
theorem qr(hz:xs.length≤1000)(hs:same v hp0 hp)(st:∀x∈xs,∀R:V→Hp→Prop,R (g x) hp→e R noXA (upd loc i (enc x)) hp)(q:K (xs.map g) hp):mj v hp0 (aG i) fNone (eM e) K (xs.map enc) [] loc hp:=
 sK enc g (λz=>true) hz hs (λz z z h=>h) (λx hx z=>st x hx) (by rw[iH.mpr λz z=>rfl];exact q)
end
section
variable{hp:Hp}{loc:aZ}{i n:Nat}{e src:DE}{f:DT}{Q:V→Hp→Prop}{X:XA}{fr:List Nat}
theorem CA(p:Nat→Bool)(g:Nat→V)(hn:n≤1000)(hs:∀R:V→Hp→Prop,R (.int (n:Nat)) hp→src R X loc hp)(tst:∀k<n,∀R:Bool→Hp→Prop,R (p k) hp→f R noXA (upd (keepL fr loc) i (.int (k:Nat))) hp)
 (st:∀k<n,p k=true→∀R:V→Hp→Prop,R (g k) hp→e R noXA (upd (keepL fr loc) i (.int (k:Nat))) hp)(q:Q (.lst (((aV n).filter p).map g)) hp):dF fr (aS d4 (av src aF)) (aG i) f (eM e) Q X loc hp:=
 hs _ (nl (DR ⟨_,j9 (by decide) (AD hn (by decide)),qE n▸sK (λk:Nat=>.int (k:Nat)) g p (by rw[yr];exact hn) trivial (λk hk=>tst k (cu.mp hk)) (λk hk=>st k (cu.mp hk)) q⟩))
theorem wA(g:Nat→V)(hn:n≤1000)(hs:∀R:V→Hp→Prop,R (.int (n:Nat)) hp→src R X loc hp)(st:∀k<n,∀R:V→Hp→Prop,R (g k) hp→e R noXA (upd (keepL fr loc) i (.int (k:Nat))) hp)
 (q:Q (.lst ((aV n).map g)) hp):dF fr (aS d4 (av src aF)) (aG i) fNone (eM e) Q X loc hp:=
 hs _ (nl (DR ⟨_,j9 (by decide) (AD hn (by decide)),qE n▸qr (λk:Nat=>.int (k:Nat)) g (by rw[yr];exact hn) trivial (λk hk=>st k (cu.mp hk)) q⟩))
end
noncomputable def ig(r:Nat):List Nat:=ar r 32++[9]
noncomputable def encR(rows:List Nat):List Nat:=rows.flatMap ig
noncomputable abbrev Ln:=List Nat×Nat
noncomputable def hd(p:Ln):List Nat:=encR p.1++ar p.2 32
theorem rL:∀(k:Nat)(l rows:List Nat)(b:Nat),parse (ar k 32++l) rows b=parse l rows (b+k):=by
 intro n_
 induction n_ with
 |zero=>
  intro l rows b
  simp
 |succ k ih=>
  intro l rows b
  rw[dh,cM,parse,if_pos rfl,ih l rows (b+1)]
  rw[bj];rfl
theorem tD:∀(rs l rows:List Nat),parse (encR rs++l) rows 0=parse l (rows++rs) 0:=by
 intro xs_
 induction xs_ with
 |nil=>
  intro l rows
  simp[encR]
 |cons r rs ih=>
  intro l rows
  have:encR (r::rs)++l=ar r 32++(9::(encR rs++l)):=by simp[encR,ig]
  rw[this,rL,parse,if_neg (by decide),if_pos rfl,ih l]
  simp
theorem rX:∀rows:List Nat,(encR rows).length=(rows.map (·+1)).sum:=by
 intro xs_
 induction xs_ with
 |nil=>
  exact rfl
 |cons r rows ih=>
  simp[encR];have:=ih;simp[encR]at this;simp[ig,this]
theorem vB(rows:List Nat)(r:Nat):encR (rows++[r])=encR rows++ar r 32++[9]:=by simp[encR,ig]
theorem kF{B:Nat}:∀(xs:List Nat),(∀x∈xs,x≤B)→xs.sum≤xs.length*B:=by
 intro xs_
 induction xs_ with
 |nil=>
  intro _
  simp
 |cons x xs ih=>
  intro h
  rw[bh,aE,lb,pg,ca]
  exact qO (ih λy hy=>h y (am _ hy)) (h x ai)
theorem encR_mem{rows:List Nat}{c:Nat}(h:c∈encR rows):c=32∨c=9:=by
 obtain⟨r,_,hc⟩:=b0.mp h
 rcases az.mp hc with h|h
 ·exact .inl (mh.mp h).2
 ·simp at h;exact .inr h
theorem hd_mem{p:Ln}{c:Nat}(h:c∈hd p):c=32∨c=9:=by
 rcases az.mp h with h|h
 ·exact encR_mem h
 ·exact .inl (mh.mp h).2
theorem fm(a:Int){b:Int}(h:0<b):0≤a.fmod b∧a.fmod b<b:=⟨Int.fmod_nonneg_of_pos _ h,Int.fmod_lt_of_pos _ h⟩
noncomputable def dg(n b:Int):Nat:=((n.fmod 10).fmod b).toNat
theorem Aj(n:Int){b:Int}(h:0<b):(n.fmod 10).fmod b=(dg n b:Nat):=by
 exact DW (fm (n.fmod 10) h).1
theorem Ai(n:Int){b:Int}(h:0<b):(dg n b:Int)<b:=by rw[←Aj n h];exact(fm _ h).2
theorem E4(n:Int):dg n 5≤4:=aP (iL.mp (Ai n (b:=5) (by decide)))
theorem E5(n:Int):dg n 4≤3:=aP (iL.mp (Ai n (b:=4) (by decide)))
theorem oE{α:Type}(k:Nat)(x:α):(ar k [x]).flatten=ar k x:=by
 induction k with
 |zero=>rfl
 |succ k ih=>simp[dh,ih]
noncomputable def colF(t:Nat):Nat→List Nat→Nat
 |c,[]=>c
 |c,x::l=>colF t (if x=32 then c+1 else c - c % t+t) l
theorem oF(t:Nat):∀(l m:List Nat)(c:Nat),colF t c (l++m)=colF t (colF t c l) m:=by
 intro xs_
 induction xs_ with
 |nil=>
  intro m c
  exact rfl
 |cons x l ih=>
  intro m c
  exact ih m _
theorem colF_sp(t:Nat):∀(k c:Nat),colF t c (ar k 32)=c+k:=by
 intro n_
 induction n_ with
 |zero=>
  intro c
  exact rfl
 |succ k ih=>
  intro c
  rw[dh,colF,if_pos rfl,ih (c+1)];exact bj c 1 k
theorem yj{t:Nat}(ht:0<t)(r m:Nat):colF t (t*m) (ig r)=t*(m+(r / t+1)):=by
 unfold ig
 rw[oF,colF_sp,colF,if_neg (by decide),colF,Nat.mul_add_mod,ph]
 have e:t*m+r - r % t=t*m+t*(r / t):=Nat.sub_eq_of_eq_add (by rw[bN,Nat.div_add_mod])
 rw[ph,u5,←bN,e]
theorem vJ{t:Nat}(ht:0<t):∀(rows:List Nat)(m:Nat),colF t (t*m) (encR rows)=t*(m+((rows.map λr=>r / t).sum+rows.length)):=by
 intro xs_
 induction xs_ with
 |nil=>
  intro m
  simp[encR,colF]
 |cons r rows ih=>
  intro m
  have e:encR (r::rows)=ig r++encR rows:=by simp[encR]
  rw[e,oF,yj ht,ih]
  congr 1
  rw[ao,bh,aE,bN,vT,ca 1 rows.length]
noncomputable def cv(p:Ln)(t:Nat):Nat:=lv p.1 p.2 t
theorem zO{t:Nat}(ht:0<t)(p:Ln):colF t 0 (hd p)=cv p t:=by
 unfold hd cv lv
 rw[oF,colF_sp]
 have:=vJ ht p.1 0
 rw[nq]at this
 rw[this,aW];exact ca _ _
theorem lH{α:Type}(f:Nat→Option α)(i:Nat)(a b:α):upd (upd f i a) i b=upd f i b:=by
 funext j;unfold upd;split<;>rfl
noncomputable def n6(p q:Ln):Nat:=topN p.1 p.2 q.1 q.2
theorem xx(b:Nat):eh 9 (ar b 32)=[ar b 32]:=by
 have:=jB 9 [] (ar b 32) (λh=>by have:=(mh.mp h).2;cases this) (by simp)
 simpa using this
theorem split_row(m:List Nat):∀r:Nat,eh 9 (ar r 32++9::m)=ar r 32::eh 9 m:=by
 intro n_
 induction n_ with
 |zero=>
  show eh 9 (9::m)=_;rw[eh,if_pos rfl];rfl
 |succ r ih=>
  rw[dh,cM,eh,if_neg (by decide),ih]
theorem xy(b:Nat):∀rows:List Nat,eh 9 (encR rows++ar b 32)=(rows++[b]).map λr=>ar r 32:=by
 intro xs_
 induction xs_ with
 |nil=>
  exact xx b
 |cons r rows ih=>
  have e:encR (r::rows)++ar b 32=ar r 32++9::(encR rows++ar b 32):=by simp[encR,ig]
  rw[e,split_row,ih];rfl
theorem AH{t:Nat}:∀rows:List Nat,(∀r∈rows,r<t)→(rows.map λr=>r / t).sum=0:=by
 intro xs_
 induction xs_ with
 |nil=>
  intro _
  exact rfl
 |cons r rows ih=>
  intro h
  simp only[ao,bh,zT (h r (by simp)),ih λx hx=>h x (by simp[hx])]
theorem mD{p:Ln}{t:Nat}(h:∀r∈p.1,r<t):cv p t=p.2+t*p.1.length:=by
 unfold cv lv;rw[AH _ h,aW]
theorem xp{p q:Ln}:(∀r∈p.1,r<n6 p q)∧(∀r∈q.1,r<n6 p q)∧p.2<n6 p q∧q.2<n6 p q:=
 have k:∀(rows:List Nat)(b r:Nat),r∈rows→r≤max (cl rows - 1) b:=λrows b r hr=>ae (Nat.le_sub_of_add_le (cl_le rows r hr)) (kJ _ _)
 ⟨λr hr=>c0 (ae (k _ _ _ hr) (kJ _ _)),λr hr=>c0 (ae (k _ _ _ hr) (fA _ _)),c0 (ae (fA _ _) (kJ _ _)),c0 (ae (fA _ _) (fA _ _))⟩
theorem ug{bp bq lp lq T:Nat}(h1:bq<T)(h:bp+T*lp<bq+T*lq):lp≤lq:=
 aP (rc (a:=T) (bc (bZ _ _) (ew h (bc (aT (ca _ _)) (Nat.add_lt_add_left h1 (T*lq))))))
theorem xI{bp bq lp lq T t:Nat}(h1:bq<T)(h:bp+T*lp<bq+T*lq)(ht:T≤t):bp+t*lp<bq+t*lq:=by
 obtain⟨k,rfl⟩:=j1 ht
 rw[lb,lb,←bN,←bN]
 exact q7 h (fK k (ug h1 h))
theorem xM{p q:Ln}{t:Nat}(h:cv p (n6 p q)<cv q (n6 p q))(ht:n6 p q≤t):cv p t<cv q t:=by
 obtain⟨a1,a2,a3,a4⟩:=xp (p:=p) (q:=q)
 rw[mD a1,mD a2]at h
 rw[mD λr hr=>aA (a1 r hr) ht,mD λr hr=>aA (a2 r hr) ht]
 exact xI a4 h ht
theorem xq{p q:Ln}:1≤n6 p q:=bZ 1 _
theorem mC(p:Ln):cv p 1=nOf p.1 p.2:=by
 unfold cv lv nOf
 have:∀rows:List Nat,(rows.map λr=>r / 1).sum+rows.length=(rows.map (·+1)).sum:=λrows=>by
  induction rows with
  |nil=>rfl
  |cons r rows ih=>simp only[ao,bh,aE,Nat.div_one]at ih⊢;lia
 rw[pg,this];lia
theorem gw(xs:List Int):(fU xs).Perm xs:=vU xs _
theorem oy(p:Ln):parse (hd p) [] 0=p:=by
 unfold hd
 have:=rL p.2 [] p.1 0
 rw[aN,aW]at this
 rw[tD,aX,this];rfl
theorem oz{p q:Ln}:fN p.1 p.2 q.1 q.2=true↔∀t,1≤t→cv p t<cv q t:=by
 unfold fN
 by_cases c:nOf q.1 q.2≤nOf p.1 p.2
 ·rw[if_pos c]
  refine⟨λh=>(nomatch h),λh=>?_⟩
  have:=h 1 (by decide)
  rw[mC,mC]at this;exact absurd this (gQ c)
 ·rw[if_neg c]
  by_cases c2:cl p.1≤1∧cl q.1≤1
  ·rw[if_pos c2]
   have z1:∀r∈p.1,r<1:=λr hr=>aA (cl_le p.1 r hr) c2.1
   have z2:∀r∈q.1,r<1:=λr hr=>aA (cl_le q.1 r hr) c2.2
   have e1:∀t,1≤t→cv p t=p.2+t*p.1.length:=λt h=>mD λr hr=>aA (z1 r hr) h
   have e2:∀t,1≤t→cv q t=q.2+t*q.1.length:=λt h=>mD λr hr=>aA (z2 r hr) h
   rw[←mC,←mC,e1 1 (by decide),e2 1 (by decide)]at c
   rw[decide_eq_true_eq]
   constructor
   ·intro h t h1
    rw[e1 t h1,e2 t h1]
    obtain⟨k,rfl⟩:=j1 h1
    rw[lb,lb,←bN,←bN]
    exact q7 (fu c) (fK k h)
   ·intro h
    have:=h (q.2+1) (bZ 1 _)
    rw[e1 _ (bZ 1 _),e2 _ (bZ 1 _)]at this
    exact ug (cR _) this
  ·rw[if_neg c2,b4]
   constructor
   ·intro h
    have all:∀t,1≤t→t≤n6 p q→cv p t<cv q t:=λt a b=>by
     by_cases e:t=1
     ·rw[e,mC,mC];exact fu c
     ·exact of_decide_eq_true (h t (eQ.mpr ⟨mS a (aI e),FE (b:=n6 p q - 1) b⟩))
    intro t a
    by_cases d:t≤n6 p q
    ·exact all t a d
    ·exact xM (all _ xq (bx _)) (fw d)
   ·intro h t hm
    exact decide_eq_true (h t (c7 (eQ.mp hm).1))
theorem sortZ_congr{a b:List Int}(h:a.Perm b):fU a=fU b:=
 gX ((gw a).trans h) (by
  have:=sv (le:=λ(a b:Int)=>decide (a≤b)) (λa b c h1 h2=>decide_eq_true (dy (of_decide_eq_true h1) (of_decide_eq_true h2))) (λa b=>by simpa using tx a b) a
  exact this.imp λh=>of_decide_eq_true h)
noncomputable def tV(a:List Nat):List Int:=a.map λ(r:Nat)=>(r:Int)
noncomputable def key(a:List Nat):List Int:=fU (tV (a++[0]))
noncomputable def uY(k:Nat)(b:List Int):List Int:=fU ((k:Int)::b)
theorem xR(a:List Nat)(k:Nat):key (a++[k])=uY k (key a):=by
 refine sortZ_congr (FW ?_ ((gw (tV (a++[0]))).symm.cons (k:Int)))
 show(tV ((a++[k])++[0])).Perm (tV (k::(a++[0])))
 refine FX _ ?_
 rw[bC]
 exact List.perm_middle
noncomputable def Sz(t:Nat)(b:List Int):Nat:=(b.map λr=>r.toNat / t+1).sum
theorem uL{t:Nat}{a b:List Int}(h:a.Perm b):Sz t a=Sz t b:=(h.map _).sum_nat
theorem xg(t k:Nat)(b:List Int):Sz t (uY k b)=(k / t+1)+Sz t b:=(uL (gw _)).trans rfl
theorem tq(t:Nat)(a:List Nat):Sz t (key a)=(a.map λr=>r / t).sum+a.length+1:=by
 refine(uL (gw _)).trans ?_
 induction a with
 |nil=>show 0 / t+1+0=0+0+1;rw[Nat.zero_div]
 |cons r a ih=>
  show r / t+1+Sz t (tV (a++[0]))=r / t+(a.map λr=>r / t).sum+(a.length+1)+1
  rw[ih];omega
noncomputable def pQ(b c:List Int):Bool:=([1,2,3,4]:List Nat).all λt=>decide (Sz t b<Sz t c)
theorem iR{b c:List Int}:pQ b c=true↔∀t∈([1,2,3,4]:List Nat),Sz t b<Sz t c:=
 b4.trans ⟨λh t ht=>of_decide_eq_true (h t ht),λh t ht=>decide_eq_true (h t ht)⟩
theorem wM(a b c:List Int)(h1:pQ a b=true)(h2:pQ b c=true):pQ a c=true:=
 iR.mpr λt ht=>ew (iR.mp h1 t ht) (iR.mp h2 t ht)
theorem wN(a:List Int):pQ a a=false:=yx.mpr λh=>dC _ (iR.mp h 1 (.head _))
theorem zj(k:Nat)(a b:List Int):pQ (uY k a) (uY k b)=pQ a b:=
 ic.mpr (iR.trans ((forall_congr' λt=>forall_congr' λz=>by rw[xg,xg];exact Nat.add_lt_add_iff_left).trans iR.symm))
noncomputable def r3(a:List Nat):Prop:=∀r∈a,r≤3
theorem mE(a:List Nat)(t:Nat):cv (a,0) t+t=t*Sz t (key a):=by
 rw[tq];show 0+t*_+t=_;rw[aW,ph t _ 1,u5]
theorem cv_lt{a b:List Nat}{t:Nat}(ht:1≤t):cv (a,0) t<cv (b,0) t↔Sz t (key a)<Sz t (key b):=
 ⟨λh=>rc (a:=t) (by rw[←mE,←mE];exact Nat.add_lt_add_right h t),λh=>Nat.lt_of_add_lt_add_right (n:=t) (by rw[mE,mE];exact Nat.mul_lt_mul_of_pos_left h ht)⟩
theorem cv_le{a b:List Nat}{t:Nat}(h:Sz t (key a)≤Sz t (key b)):cv (a,0) t≤cv (b,0) t:=
 qZ (b:=t) (by rw[mE,mE];exact fK _ h)
theorem xf{a:List Nat}(h:r3 a){t:Nat}(ht:4≤t):Sz t (key a)=Sz 4 (key a):=by
 rw[tq,tq,AH a λr hr=>aA (c0 (h r hr)) ht,AH a λr hr=>c0 (h r hr)]
theorem lk_all{a b:List Nat}(ha:r3 a)(hb:r3 b):pQ (key a) (key b)=true↔∀t,1≤t→cv (a,0) t<cv (b,0) t:=by
 rw[iR]
 constructor
 ·intro h t ht
  rw[cv_lt ht]
  by_cases c:4≤t
  ·rw[xf ha c,xf hb c];exact h 4 (by simp)
  ·have:t=1∨t=2∨t=3:=by omega
   rcases this with rfl|rfl|rfl<;>exact h _ (by simp)
 ·intro h t ht
  have h1:1≤t:=by
   simp at ht;omega
  exact(cv_lt h1).mp (h t h1)
theorem less_key{a b:List Nat}(ha:r3 a)(hb:r3 b):fN a 0 b 0=pQ (key a) (key b):=
 ic.mpr ((oz (p:=(a,0)) (q:=(b,0))).trans (lk_all ha hb).symm)
theorem cl_perm{a b:List Nat}(h:a.Perm b):cl a=cl b:=by
 induction h with
 |nil=>rfl
 |cons x _ ih=>show max _ _=max _ _;rw[ih]
 |swap x y l=>exact Nat.max_left_comm ..
 |trans _ _ h1 h2=>exact h1.trans h2
theorem xr{a b:List Nat}:(tV a).Perm (tV b)↔a.Perm b:=by
 refine⟨λh=>?_,λh=>h.map _⟩
 have e:∀l:List Nat,(tV l).map Fj=l:=λl=>by rw[tV,aL];exact List.map_id l
 have:=h.map Fj
 rwa[e,e]at this
theorem wO{a b:List Nat}:key a=key b↔cnt a=cnt b:=by
 have k1:key a=key b↔a.Perm b:=by
  constructor
  ·intro h
   have:=(gw (tV (a++[0]))).symm.trans ((show fU _=fU _ from h)▸gw (tV (b++[0])))
   exact(List.perm_append_right_iff _).mp (xr.mp this)
  ·exact λh=>sortZ_congr ((h.append_right _).map _)
 rw[k1]
 constructor
 ·intro h
  unfold cnt
  rw[cl_perm h]
  exact bo λj z=>by rw[h.count_eq]
 ·intro h
  have hc:cl a=cl b:=by rw[←cnt_len,←cnt_len,h]
  refine List.perm_iff_count.mpr λj=>?_
  by_cases c:j<cl a
  ·have e:=congrArg (λl:List Int=>l[j]?) h
   simp only[cnt,b9,dj c,dj (hc▸c),bW,cO]at e
   exact fe e
  ·rw[count_big (cz c),count_big (hc▸cz c)]
section
variable{X:Type}
noncomputable def fx(G:(Nat→X)→Nat→X)(z:X):Nat→Nat→X
 |0,_=>z
 |n+1,v=>G (fx G z n) v
theorem Ah{G:(Nat→X)→Nat→X}{z:X}(hG:∀f g v,(∀u,u<v→f u=g u)→G f v=G g v):∀v n m,v<n→v<m→fx G z n v=fx G z m v:=by
 intro v
 induction v using Nat.strongRecOn with
 |ind v ih=>
  intro n m hn hm
  match n,m,hn,hm with
  |n+1,m+1,hn,hm=>exact hG _ _ v λu hu=>ih u hu n m (aA hu (aP hn)) (aA hu (aP hm))
end
noncomputable abbrev St:=Nat×Nat×Nat
noncomputable def kM(st:List St):Prop:=∀s∈st,s.1<s.2.1∧s.2.1≤4∧s.2.2≤3
noncomputable def ct(st:List St)(v:Nat):List St:=st.filter λs=>decide (s.2.1=v)
theorem oB{st:List St}{v:Nat}{s:St}:s∈ct st v↔s∈st∧s.2.1=v:=bX.trans (and_congr_right λz=>decide_eq_true_iff)
noncomputable def fR(f:Nat→List (List Nat))(ss:List St):List (List Nat):=ss.flatMap λs=>(f s.1).map (·++[s.2.2])
noncomputable def stepW(st:List St)(f:Nat→List (List Nat))(v:Nat):List (List Nat):=if ct st v=[]then [[]]else fR f (ct st v)
noncomputable def tW(F:List (List Nat)):List (List Nat)→List (List Nat)→List (List Nat)
 |acc,[]=>acc
 |acc,a::L=>tW F (if F.filter (λx=>fN a 0 x 0)=[]∧acc.filter (λx=>decide (cnt a=cnt x))=[]then acc++[a]else acc) L
noncomputable def z6(st:List St)(f:Nat→List (List Nat))(v:Nat):List (List Nat):=tW (stepW st f v) [] (stepW st f v)
noncomputable def rA(st:List St)(f:Nat→Nat)(v:Nat):Nat:=((ct st v).map λs=>f s.1+1).foldr max 0
noncomputable abbrev jW(st:List St):=fx (stepW st) []
noncomputable abbrev kpt(st:List St):=fx (z6 st) []
noncomputable abbrev hgt(st:List St):=fx (rA st) 0
section
variable{st:List St}(ok:kM st)
include ok
theorem eS{v:Nat}{s:St}(h:s∈ct st v):s.1<v:=have:=oB.mp h;this.2▸(ok s this.1).1
theorem vz{f g:Nat→List (List Nat)}{v:Nat}(h:∀u,u<v→f u=g u):fR f (ct st v)=fR g (ct st v):=by
 unfold fR mZ
 rw[bo λs hs=>by rw[h s.1 (eS ok hs)]]
theorem sg(f g:Nat→List (List Nat))(v:Nat)(h:∀u,u<v→f u=g u):stepW st f v=stepW st g v:=by
 unfold stepW;rw[vz ok h]
theorem Bd{v n m:Nat}(hn:v<n)(hm:v<m):kpt st n v=kpt st m v:=Ah (λf g v h=>by unfold z6;rw[sg ok f g v h]) v n m hn hm
theorem Be{v n m:Nat}(hn:v<n)(hm:v<m):hgt st n v=hgt st m v:=Ah (λf g v h=>by
 unfold rA;rw[bo λs hs=>by rw[h s.1 (eS ok hs)]]) v n m hn hm
theorem nR{P:Nat→List Nat→Prop}(h0:∀v,P v [])(hs:∀s∈st,∀a,P s.1 a→P s.2.1 (a++[s.2.2])){f:Nat→List (List Nat)}{v:Nat}(hf:∀u,u<v→∀a∈f u,P u a):∀a∈stepW st f v,P v a:=by
 intro a ha
 unfold stepW at ha
 split at ha
 ·rw[bS.mp ha];exact h0 v
 ·obtain⟨s,hsm,h⟩:=b0.mp ha
  obtain⟨b,hb,rfl⟩:=an.mp h
  have:=oB.mp hsm
  exact this.2▸hs s this.1 b (hf _ (eS ok hsm) b hb)
end
theorem bst_sub{F:List (List Nat)}{x:List Nat}:∀(L acc:List (List Nat)),x∈tW F acc L→x∈acc∨x∈L
 | [],acc,h=>.inl h
 |a::L,acc,h=>by
  rcases bst_sub L _ h with h|h
  ·split at h
   ·rcases az.mp h with h|h
    ·exact .inl h
    ·rw[bS.mp h];exact .inr (.head _)
   ·exact .inl h
  ·exact .inr (.tail _ h)
theorem bst_len{F:List (List Nat)}:∀(L acc:List (List Nat)),(tW F acc L).length≤acc.length+L.length
 | [],acc=>bx _
 |a::L,acc=>by
  refine ae (bst_len L _) ?_
  split
  ·rw[aw,b8,aE];omega
  ·rw[aE];omega
section
variable{st:List St}(ok:kM st)
include ok
theorem t8{P:Nat→List Nat→Prop}(h0:∀v,P v [])(hs:∀s∈st,∀a,P s.1 a→P s.2.1 (a++[s.2.2])):∀n v,∀a∈jW st n v,P v a
 |0,_,_,h=>nomatch h
 |n+1,v,a,h=>nR ok h0 hs (λu z=>t8 h0 hs n u) a h
theorem uh{P:Nat→List Nat→Prop}(h0:∀v,P v [])(hs:∀s∈st,∀a,P s.1 a→P s.2.1 (a++[s.2.2])):∀n v,∀a∈kpt st n v,P v a
 |0,_,_,h=>nomatch h
 |n+1,v,a,h=>nR ok h0 hs (λu z=>uh h0 hs n u) a ((bst_sub _ _ h).resolve_left nofun)
noncomputable def okA(v:Nat)(a:List Nat):Prop:=r3 a∧a.length≤v
theorem j8:∀s∈st,∀a,okA s.1 a→okA s.2.1 (a++[s.2.2]):=λs hs a h=>
 ⟨λr hr=>(az.mp hr).elim (h.1 r) λh=>bS.mp h▸(ok s hs).2.2,by rw[aw];exact bc h.2 (ok s hs).1⟩
theorem wys_ok{n v:Nat}{a:List Nat}(h:a∈jW st n v):okA v a:=t8 ok (P:=okA) (λv=>⟨λz h=>(nomatch h),aD _⟩) (j8 ok) n v a h
theorem kpt_ok{n v:Nat}{a:List Nat}(h:a∈kpt st n v):okA v a:=uh ok (P:=okA) (λv=>⟨λz h=>(nomatch h),aD _⟩) (j8 ok) n v a h
theorem qu:∀n v,v<n→jW st n v≠ []
 |n+1,v,h=>by
  show stepW st _ v≠ []
  unfold stepW
  split
  ·exact nofun
  ·rename_i c
   obtain⟨s,ss,e⟩:=eZ c
   have hs:s∈ct st v:=e▸ .head _
   obtain⟨a,as,e2⟩:=eZ (qu n s.1 (aA (eS ok hs) (aP h)))
   intro z
   have:a++[s.2.2]∈fR (jW st n) (ct st v):=b0.mpr ⟨s,hs,an.mpr ⟨a,e2▸ .head _,rfl⟩⟩
   have z':fR (jW st n) (ct st v)=[]:=z
   rw[z']at this;cases this
end
theorem bst_key{F:List (List Nat)}(hF:∀a∈F,r3 a):∀(L acc:List (List Nat)),(∀a∈L,r3 a)→(tW F acc L).map key=kt (acc.map key) ((L.filter λa=> !(F.map key).any (pQ (key a) ·)).map key)
 | [],acc,_=>rfl
 |a::L,acc,h=>by
  have ha:=h a (.head _)
  have e1:F.filter (λx=>fN a 0 x 0)=[]↔(!(F.map key).any (pQ (key a) ·))=true:=by
   rw[cE,jm,gn]
   constructor
   ·intro z b hb
    obtain⟨x,hx,rfl⟩:=an.mp hb
    rw[←less_key ha (hF x hx)];exact z x hx
   ·intro z x hx
    rw[less_key ha (hF x hx)];exact z _ (an.mpr ⟨x,hx,rfl⟩)
  have e2:acc.filter (λx=>decide (cnt a=cnt x))=[]↔key a∉acc.map key:=by
   rw[gn]
   constructor
   ·intro z hm
    obtain⟨x,hx,e⟩:=an.mp hm
    exact z x hx (decide_eq_true (wO.mp e.symm))
   ·intro z x hx e
    exact z (an.mpr ⟨x,hx,(wO.mpr (of_decide_eq_true e)).symm⟩)
  refine(bst_key hF L _ λx hx=>h x (.tail _ hx)).trans ?_
  rw[aQ]
  by_cases c1:F.filter (λx=>fN a 0 x 0)=[]
  ·rw[if_pos (e1.mp c1),ao]
   by_cases c2:acc.filter (λx=>decide (cnt a=cnt x))=[]
   ·rw[if_pos ⟨c1,c2⟩,uB (e2.mp c2),bQ];rfl
   ·rw[if_neg λz=>c2 z.2,w6 (FZ λz=>c2 (e2.mpr z))]
  ·rw[if_neg λz=>c1 z.1,if_neg λz=>c1 (e1.mpr z)]
theorem yn{F:List (List Nat)}(hF:∀a∈F,r3 a):(tW F [] F).map key=kt [] (Nk pQ (F.map key)):=by
 rw[bst_key hF F [] hF]
 unfold Nk
 rw[kj];rfl
theorem rV(f:Nat→List (List Nat))(ss:List St):(fR f ss).map key=ss.flatMap λs=>((f s.1).map key).map (uY s.2.2):=by
 unfold fR
 rw[nV]
 unfold mZ
 congr 1
 refine bo λs z=>?_
 rw[aL,aL]
 exact bo λa z=>xR a _
section
variable{st:List St}(ok:kM st)
include ok
theorem nN:∀n v,v<n→(kpt st n v).map key=kt [] (Nk pQ ((jW st n v).map key))
 |n+1,v,h=>by
  have hr:∀a∈stepW st (kpt st n) v,r3 a:=λa ha=>(nR ok (P:=okA) (λv=>⟨λz h=>(nomatch h),aD _⟩) (j8 ok) (λu z b hb=>kpt_ok ok hb) a ha).1
  refine(yn hr).trans ?_
  show _=kt [] (Nk pQ ((stepW st (jW st n) v).map key))
  unfold stepW
  by_cases c:ct st v=[]
  ·rw[if_pos c,if_pos c]
  ·rw[if_neg c,if_neg c,rV,rV]
   exact vp wM wN (λs:St=>uY s.2.2) (λs=>zj s.2.2) (ct st v) (λs=>(jW st n s.1).map key) (λs=>(kpt st n s.1).map key) λs hs=>nN n s.1 (aA (eS ok hs) (aP h))
theorem xS{n v:Nat}(h:v<n){a:List Nat}(ha:a∈kpt st n v):∃w∈jW st n v,key w=key a:=by
 have:key a∈(kpt st n v).map key:=an.mpr ⟨a,ha,rfl⟩
 rw[nN ok n v h]at this
 exact an.mp (bX.mp (((lJ _ _).mp this).resolve_left nofun)).1
theorem rG{n v:Nat}(h:v<n){w:List Nat}(hw:w∈jW st n v):∃a∈kpt st n v,∀t,1≤t→cv (w,0) t≤cv (a,0) t:=by
 obtain⟨m,hm,e⟩:=wE wM wN (an.mpr ⟨w,hw,rfl⟩:key w∈(jW st n v).map key)
 rw[←nN ok n v h]at hm
 obtain⟨a,ha,rfl⟩:=an.mp hm
 refine⟨a,ha,λt ht=>?_⟩
 rcases e with e|e
 ·exact cv_le (aT (by rw[e]))
 ·exact dx ((lk_all (wys_ok ok hw).1 (kpt_ok ok ha).1).mp e t ht)
theorem key_cv{a b:List Nat}(h:key a=key b)(t:Nat):cv (a,0) t=cv (b,0) t:=kK (cv_le (aT (by rw[h]))) (cv_le (aT (by rw[h])))
theorem xY{n v t:Nat}(h:v<n)(ht:1≤t){M N:Int}(h1:M∈(kpt st n v).map λa=>((cv (a,0) t:Nat):Int))(h2:∀x∈(kpt st n v).map λa=>((cv (a,0) t:Nat):Int),x≤M)
 (h3:N∈(jW st n v).map λa=>((cv (a,0) t:Nat):Int))(h4:∀x∈(jW st n v).map λa=>((cv (a,0) t:Nat):Int),x≤N):M=N:=by
 obtain⟨a,ha,rfl⟩:=an.mp h1
 obtain⟨w,hw,rfl⟩:=an.mp h3
 refine pF ?_ ?_
 ·obtain⟨x,hx,e⟩:=xS ok h ha
  rw[←key_cv ok e];exact h4 _ (an.mpr ⟨x,hx,rfl⟩)
 ·obtain⟨x,hx,e⟩:=rG ok h hw
  exact dy (bI.mpr (e t ht)) (h2 _ (an.mpr ⟨x,hx,rfl⟩))
end
noncomputable def mn(F:List (List Nat))(bd:List Nat→List Nat→Bool):List (List Int)→List (List Nat)→List (List Int)
 |acc,[]=>acc
 |acc,a::L=>mn F bd (if F.filter (bd a)=[]∧key a∉acc then acc++[key a]else acc) L
noncomputable def po(sizes:List Nat)(a x:List Nat):Bool:=sizes.all λt=>decide (cv (a,0) t<cv (x,0) t)
theorem zR{sizes:List Nat}(h4:∀t∈([1,2,3,4]:List Nat),t∈sizes)(h1:∀t∈sizes,1≤t){a x:List Nat}(ha:r3 a)(hx:r3 x):po sizes a x=pQ (key a) (key x):=by
 refine ic.mpr ⟨λh=>?_,λh=>?_⟩
 ·refine iR.mpr λt ht=>?_
  exact(cv_lt (h1 t (h4 t ht))).mp (of_decide_eq_true (b4.mp h t (h4 t ht)))
 ·exact b4.mpr λt ht=>decide_eq_true ((lk_all ha hx).mp h t (h1 t ht))
theorem uz{F:List (List Nat)}{bd:List Nat→List Nat→Bool}(hb:∀a∈F,∀x∈F,bd a x=pQ (key a) (key x)):∀(L:List (List Nat))(acc:List (List Int)),(∀a∈L,a∈F)→
 mn F bd acc L=kt acc ((L.filter λa=> !(F.map key).any (pQ (key a) ·)).map key)
 | [],acc,_=>rfl
 |a::L,acc,h=>by
  have e1:F.filter (bd a)=[]↔(!(F.map key).any (pQ (key a) ·))=true:=by
   rw[cE,jm,gn]
   constructor
   ·intro z b hm
    obtain⟨x,hx,rfl⟩:=an.mp hm
    rw[←hb a (h a (.head _)) x hx];exact z x hx
   ·intro z x hx
    rw[hb a (h a (.head _)) x hx];exact z _ (an.mpr ⟨x,hx,rfl⟩)
  refine(uz hb L _ λx hx=>h x (.tail _ hx)).trans ?_
  rw[aQ]
  by_cases c1:F.filter (bd a)=[]
  ·rw[if_pos (e1.mp c1),ao]
   by_cases c2:key a∈acc
   ·rw[if_neg λz=>z.2 c2,w6 c2]
   ·rw[if_pos ⟨c1,c2⟩,uB c2]
  ·rw[if_neg λz=>c1 z.1,if_neg λz=>c1 (e1.mpr z)]
theorem yc{F:List (List Nat)}{bd:List Nat→List Nat→Bool}(hb:∀a∈F,∀x∈F,bd a x=pQ (key a) (key x)):mn F bd [] F=kt [] (Nk pQ (F.map key)):=by
 rw[uz hb F [] λz h=>h]
 unfold Nk
 rw[kj];rfl
section
variable{st:List St}(ok:kM st)
include ok
theorem yd{sizes:List Nat}(h4:∀t∈([1,2,3,4]:List Nat),t∈sizes)(h1:∀t∈sizes,1≤t){n v:Nat}(h:v<n):mn (jW st n v) (po sizes) [] (jW st n v)=(kpt st n v).map key:=by
 rw[nN ok n v h]
 exact yc λa ha x hx=>zR h4 h1 (wys_ok ok ha).1 (wys_ok ok hx).1
end
noncomputable def cV(st:List St):Nat→Nat
 |0=>(ct st 0).length - 1
 |v+1=>cV st v+((ct st (v+1)).length - 1)
theorem uI{st:List St}{u v:Nat}(h:u≤v):cV st u≤cV st v:=by
 induction h with
 |refl=>exact bx _
 |step _ ih=>exact ae ih (ba _ _)
theorem A6{d:Nat}(h:0<d):d≤2 ^ (d - 1):=by
 have:=Nat.lt_two_pow_self (n:=d - 1);omega
theorem un{f:Nat→List (List Nat)}{B:Nat}:∀ss:List St,(∀s∈ss,(f s.1).length≤B)→(fR f ss).length≤ss.length*B
 | [],_=>aD _
 |s::ss,h=>by
  have e:fR f (s::ss)=(f s.1).map (·++[s.2.2])++fR f ss:=cY
  rw[e,aw,ak,aE,Nat.succ_mul,ca]
  exact qO (un ss λs hs=>h s (.tail _ hs)) (h s (.head _))
theorem mG{st:List St}(ok:kM st){f:Nat→List (List Nat)}{v:Nat}(h:∀u,u<v→(f u).length≤2 ^ cV st u):(stepW st f v).length≤2 ^ cV st v:=by
 unfold stepW
 split
 ·exact Nat.one_le_two_pow
 ·rename_i c
  match v,c,h with
  |0,c,_=>
   obtain⟨s,ss,e⟩:=eZ c
   exact absurd (eS ok (e▸ .head _:s∈ct st 0)) (eH _)
  |v+1,c,h=>
   refine ae (un (B:=2 ^ cV st v) _ λs hs=>?_) ?_
   ·have l:=eS ok hs
    exact ae (h _ l) (vS (by decide) (uI (aP l)))
   ·rw[cV,Nat.pow_add,Nat.mul_comm]
    exact fK _ (A6 (vV.mpr c))
theorem nK{st:List St}(ok:kM st):∀n v,(jW st n v).length≤2 ^ cV st v
 |0,_=>aD _
 |n+1,v=>mG ok λu z=>nK ok n u
theorem qJ{st:List St}(ok:kM st):∀n v,(kpt st n v).length≤2 ^ cV st v
 |0,_=>aD _
 |n+1,v=>ae (bst_len _ _) (by rw[cm,aW];exact mG ok λu z=>qJ ok n u)
noncomputable def st0:List St:=[(0,4,3),(0,1,0),(1,4,0)]
theorem fP(s:St)(st:List St)(v:Nat):(ct (s::st) v).length=(if s.2.1=v then 1 else 0)+(ct st v).length:=by
 unfold ct
 rw[aQ]
 by_cases c:s.2.1=v
 ·rw[if_pos (decide_eq_true c),if_pos c,aE,ca]
 ·rw[if_neg (by simpa using c),if_neg c,aW]
theorem rO:∀st:List St,(ct st 0).length+(ct st 1).length+(ct st 2).length+(ct st 3).length+(ct st 4).length≤st.length
 | []=>bx _
 |s::st=>by
  have:=rO st
  rw[fP,fP,fP,fP,fP,aE]
  repeat' split
  all_goals omega
theorem CC{rest:List St}(h:rest.length≤4){v:Nat}(hv:v≤4):2 ^ cV (st0++rest) v≤32:=by
 refine ae (vS (by decide) (ae (uI hv) (?_:cV (st0++rest) 4≤5))) (by decide)
 have s:=rO (st0++rest)
 have a1:1≤(ct (st0++rest) 1).length:=by
  rw[show st0++rest=(0,4,3)::(0,1,0)::(1,4,0)::rest from rfl,fP,fP];simp
 have a4:1≤(ct (st0++rest) 4).length:=by
  rw[show st0++rest=(0,4,3)::(0,1,0)::(1,4,0)::rest from rfl,fP];simp
 have l:(st0++rest).length≤7:=by rw[aw];exact dX h 3
 show(ct _ 0).length - 1+((ct _ 1).length - 1)+((ct _ 2).length - 1)+((ct _ 3).length - 1)+((ct _ 4).length - 1)≤5
 omega
theorem wr{l:List Nat}{k:Nat}:l.foldr max 0≤k↔∀x∈l,x≤k:=by
 induction l with
 |nil=>exact⟨λz z h=>(nomatch h),λz=>aD _⟩
 |cons a l ih=>
  rw[pj,i6,ih]
  exact⟨λh x hx=>(ah.mp hx).elim (λe=>e▸h.1) (h.2 x),λh=>⟨h a (.head _),λx hx=>h x (.tail _ hx)⟩⟩
theorem mx_mem:∀l:List Nat,l≠ []→l.foldr max 0∈l
 | [],h=>absurd rfl h
 | [a],_=>by rw[pj,List.foldr_nil,Nat.max_zero];exact .head _
 |a::b::l,_=>by
  rw[pj]
  rcases CJ a ((b::l).foldr max 0)with h|h
  ·rw[j0 h];exact .tail _ (mx_mem (b::l) nofun)
  ·rw[kI h];exact .head _
section
variable{st:List St}(ok:kM st)
include ok
theorem nP:∀n v,v<n→(∃w∈jW st n v,w.length=hgt st n v)∧∀w∈jW st n v,w.length≤hgt st n v
 |n+1,v,h=>by
  show(∃w∈stepW st (jW st n) v,w.length=rA st (hgt st n) v)∧∀w∈stepW st (jW st n) v,w.length≤rA st (hgt st n) v
  unfold stepW rA
  by_cases c:ct st v=[]
  ·rw[if_pos c,c]
   exact⟨⟨[],.head _,rfl⟩,λw hw=>by rw[bS.mp hw];exact bx _⟩
  ·rw[if_neg c]
   have lt:∀s∈ct st v,s.1<n:=λs hs=>aA (eS ok hs) (aP h)
   constructor
   ·obtain⟨s,hs,e⟩:=an.mp (mx_mem ((ct st v).map λs=>hgt st n s.1+1) (by simpa using c))
    obtain⟨w,hw,e2⟩:=(nP n s.1 (lt s hs)).1
    exact⟨w++[s.2.2],b0.mpr ⟨s,hs,an.mpr ⟨w,hw,rfl⟩⟩,by rw[aw,e2];exact e⟩
   ·intro w hw
    obtain⟨s,hs,hw⟩:=b0.mp hw
    obtain⟨a,ha,rfl⟩:=an.mp hw
    rw[aw]
    exact ae (aR ((nP n s.1 (lt s hs)).2 a ha)) (wr.mp (bx _) _ (an.mpr ⟨s,hs,rfl⟩))
theorem rQ{v:Nat}(h:v<5):hgt st 5 v=((ct st v).map λs=>hgt st 5 s.1+1).foldr max 0:=by
 show((ct st v).map λs=>hgt st 4 s.1+1).foldr max 0=_
 congr 1
 refine bo λs hs=>?_
 have l:=aA (eS ok hs) (aP h)
 rw[Be ok (n:=4) (m:=5) l (gA l)]
theorem wP{v k:Nat}(h:v<5):hgt st 5 v≤k↔∀s∈ct st v,hgt st 5 s.1<k:=by
 rw[rQ ok h,wr]
 exact⟨λz s hs=>z _ (an.mpr ⟨s,hs,rfl⟩),λz x hx=>by obtain⟨s,hs,rfl⟩:=an.mp hx;exact z s hs⟩
theorem xX{v j:Nat}(h:v<5)(e:hgt st 5 v=j+1):∃u,u<5∧hgt st 5 u=j:=by
 rw[rQ ok h]at e
 by_cases c:ct st v=[]
 ·rw[c]at e;cases e
 ·obtain⟨s,hs,e2⟩:=an.mp (mx_mem ((ct st v).map λs=>hgt st 5 s.1+1) (by simpa using c))
  exact⟨s.1,ew (eS ok hs) h,ql (e2.trans e)⟩
theorem uj:∀(m j v:Nat),v<5→hgt st 5 v=j+m→∃u,u<5∧hgt st 5 u=j
 |0,j,v,h,e=>⟨v,h,e⟩
 |m+1,j,v,h,e=>by
  obtain⟨u,hu,e2⟩:=xX ok h (e.trans (bN j m 1).symm)
  exact uj m j u hu e2
end
theorem vA(a:List Nat):(encR a).count 9=a.length:=by
 induction a with
 |nil=>rfl
 |cons r a ih=>
  show((ar r 32++[9])++encR a).count 9=_
  rw[jl,jl,ih,List.count_replicate];simp;omega
theorem pV{α:Type}(f:α→V)(d:α→PyData)(h:∀x,sH (f x)=some (d x)):∀xs:List α,iO (xs.map f)=some (xs.map d):=by
 intro xs_
 induction xs_ with
 |nil=>
  exact rfl
 |cons x xs ih=>
  show(sH (f x)).bind (λe=>(iO (xs.map f)).map (e::·))=_
  rw[h x,ih];rfl
theorem zq{α:Type}(d:α→PyData)(k:Nat)(h:∀x,(d x).canLay0=true∧(d x).depth≤k):∀xs:List α,eJ (xs.map d)=true∧gV (xs.map d)≤k:=by
 intro xs_
 induction xs_ with
 |nil=>
  exact⟨rfl,aD _⟩
 |cons x xs ih=>
  have h1:=ih
  have h2:=h x
  simp only[ao,eJ,gV,h1.1,h2.1,Bool.and_self,true_and]
  exact i6.mpr ⟨h2.2,h1.2⟩
theorem tA{α:Type}(d:α→PyData)(h:∀x,(d x).canLay0=true∧(d x).depth≤60)(xs:List α):bu (.list (xs.map d))=true:=by
 obtain⟨h1,h2⟩:=zq d 60 h xs
 unfold bu
 rw[b6]
 refine⟨by rw[dD];exact h1,decide_eq_true ?_⟩
 rw[eX];exact ae (aR h2) (by decide)
theorem ue{Q:V→Hp→Prop}{hp:Hp}{x y:V}{d:PyData}(h:toD hp x=some d)(h':toD hp y=some d)(s:bu d=true)(q:Q (.bool false) hp):tX x y Q hp:=
 ⟨d,d,h,h',s,s,by rw[SeqAt.eqv_refl d (gf s)];exact q⟩
noncomputable def dI(xs:List Int):PyData:=.list (xs.map .int)
theorem ow(xs:List Int):sH (bagV xs)=some (dI xs):=iy (hp:=λz=>ac) xs
theorem Cz(xs:List Int):(dI xs).canLay0=true∧(dI xs).depth≤60:=by
 have h:=mK xs
 unfold dI
 refine⟨by rw[dD];exact h.1,by rw[eX,h.2];decide⟩
theorem Bi(a b:List Int):cf (dI a) (dI b)=decide (a=b):=by
 unfold dI
 rw[cf,eqv_ints]
theorem qx{hp:Hp}(G:List (List Int)):toD hp (.lst (G.map bagV))=some (.list (G.map dI)):=by
 show(iO _).map _=_
 rw[pV bagV dI ow];rfl
theorem mH(G:List (List Int)):bu (.list (G.map dI))=true:=tA dI Cz G
theorem u9(B:List Int):bu (dI B)=true:=gH B
theorem Bw(B:List Int):∀G:List (List Int),(G.map dI).any (λy=>cf y (dI B))=decide (B∈G):=by
 intro xs_
 induction xs_ with
 |nil=>
  simp
 |cons g G ih=>
  rw[ao,jo,ih,Bi]
  by_cases h:g=B
  ·simp[h]
  ·have:¬B=g:=λz=>h z.symm
   simp[h,this]
theorem kC{α:Type}{G:Hp→Hp→Prop}(gr:∀h,G h h)(gt:∀{a b c},G a b→G b c→G a c)(enc:α→V)(g:α→List V){v:V}{hp0:Hp}{t:DA}{f:DT}{inner:CD}{K:List V→Hp→Prop}{loc:aZ}:∀(xs:List α)(acc:List V)(hp:Hp),acc.length+(xs.flatMap g).length≤1000→(∀hp',G hp hp'→same v hp0 hp')→
 (∀x∈xs,∀hp1,G hp hp1→∀(acc:List V),acc.length+(g x).length≤1000→∀(R:List V→Hp→Prop),(∀hp2,G hp1 hp2→R (acc++g x) hp2)→
  t (enc x) (λloc1 hp2=>f (λb hp3=>if b then inner R acc loc1 hp3 else R acc hp3) noXA loc1 hp2) pn loc hp1)→
 (∀hp2,G hp hp2→K (acc++xs.flatMap g) hp2)→mj v hp0 t f inner K (xs.map enc) acc loc hp
 | [],acc,hp,_,_,_,h=>by
   have:=h hp (gr _)
   rw[List.flatMap_nil,aN]at this
   exact this
 |x::xs,acc,hp,hl,hs,st,h=>by
  rw[ao,AW]
  rw[cY,aw]at hl
  refine st x (.head _) hp (gr _) acc (by omega) (λacc' hp3=>same v hp0 hp3∧mj v hp0 t f inner K (xs.map enc) acc' loc hp3) λhp2 g2=>⟨hs _ g2,?_⟩
  refine kC gr gt enc g xs _ hp2 (by rw[aw];omega) (λhp' k=>hs _ (gt g2 k)) (λu hu hp1 k=>st u (.tail _ hu) hp1 (gt g2 k)) λhp3 k=>?_
  rw[bC,←cY]
  exact h hp3 (gt g2 k)
theorem nQ{α β:Type}(p:α→Bool)(g:α→List β):∀xs:List α,(xs.flatMap λx=>if p x then g x else [])=(xs.filter p).flatMap g
 | []=>rfl
 |x::xs=>by
  rw[cY,nQ p g xs,aQ]
  split
  ·rw[cY]
  ·rfl
theorem jf{α β:Type}(f:α→β):∀xs:List α,(xs.flatMap λa=>[f a])=xs.map f
 | []=>rfl
 |x::xs=>by rw[cY,jf f xs];rfl
noncomputable def wR(a:List Nat):V:=wObj (encR a) a 0
noncomputable def wT(a:List Nat):V:=.str (encR a)
noncomputable def stV(s:St):V:=.tup [.int (s.1:Nat),.int (s.2.1:Nat),.str (ig s.2.2)]
theorem oS(a:List Nat)(k:Nat):encR (a++[k])=encR a++ig k:=by rw[vB,bC];rfl
theorem mI{a:List Nat}{n:Nat}(h:okA n a)(hn:n≤4):(a.map (·+1)).sum≤16:=by
 have:=kF (B:=4) (a.map (·+1)) λx hx=>by
  obtain⟨r,hr,rfl⟩:=an.mp hx
  exact aR (h.1 r hr)
 rw[ak]at this
 exact ae this (Nat.mul_le_mul_right 4 (ae h.2 hn))
theorem enc_len{a:List Nat}{n:Nat}(h:okA n a)(hn:n≤4):(encR a).length≤16:=by rw[rX];exact mI h hn
section
variable{Q:V→Hp→Prop}{X:XA}{hp:Hp}
theorem zC{r1 r2:List Nat}{b1 b2:Nat}(q:Q (.bool (decide (cnt r1=cnt r2∧b1=b2))) hp):nZ (.tup [.tup ((cnt r1).map .int),.int (b1:Nat)]) (.tup [.tup ((cnt r2).map .int),.int (b2:Nat)]) Q hp:=by
 have td:∀(r:List Nat)(b:Nat),toD hp (.tup [.tup ((cnt r).map .int),.int (b:Nat)])=some (.tuple [.tuple ((cnt r).map .int),.int (b:Nat)]):=λr b=>by
  show(iO _).map _=_
  rw[iO,sH,oK];rfl
 have sh:∀(r:List Nat)(b:Nat),bu (.tuple [.tuple ((cnt r).map .int),.int (b:Nat)])=true:=λr b=>by
  simp[bu,dD,eJ,eX,gV,mK (cnt r)]
 refine⟨_,_,td r1 b1,td r2 b2,sh r1 b1,sh r2 b2,?_⟩
 have e:cf (.tuple [.tuple ((cnt r1).map .int),.int (b1:Nat)]) (.tuple [.tuple ((cnt r2).map .int),.int (b2:Nat)])=decide (cnt r1=cnt r2∧b1=b2):=by
  rw[cf,jb,cf,eqv_ints,jb,eqvI,jb]
  rw[zY,Bool.and_true]
  congr 1
  exact decide_eq_decide.mpr BO
 rw[e];exact q
theorem uH{l1 r1 l2 r2:List Nat}{b1 b2:Nat}(q:Q (.bool (decide (cnt r1=cnt r2∧b1=b2))) hp):cI [wObj l1 r1 b1,wObj l2 r2 b2] Q X hp:=by
 refine⟨[(0,wObj l1 r1 b1),(39,wObj l2 r2 b2)],rfl,?_⟩
 unfold iI
 refine sq (rv rfl ⟨rfl,_,rfl,rfl,rv rfl ⟨rfl,_,rfl,rfl,zC (yH q)⟩⟩)
theorem mQ{a:List Nat}{n:Nat}(h:okA n a)(hn:n≤4)(q:Q (bagV (key a)) hp):gs [.str (encR a)] Q X hp:=by
 refine⟨[(65,.str (encR a))],rfl,?_⟩
 unfold qj
 have hl:=enc_len h hn
 refine sq (rv rfl ⟨⟨_,rfl⟩,cn (nl ⟨encR a,9,rfl,lim4 (ae hl (by decide)),_,rfl,?_⟩)⟩)
 have e:(eh 9 (encR a)).map V.str=(a++[0]).map λr=>V.str (ar r 32):=by
  have:=xy 0 a
  rw[show ar 0 32=([]:List Nat)from rfl,aN]at this
  rw[this,aL];rfl
 rw[e]
 have la:=ae h.2 hn
 refine qr (λr=>V.str (ar r 32)) (λr=>V.int (r:Nat)) (by rw[aw];exact ae (aR la) (by decide)) trivial (λr hr R hR=>rv us (nl (ut.mpr ⟨?_,by rw[cJ];exact hR⟩))) ?_
 ·rw[cJ]
  have:r≤3:=(az.mp hr).elim (h.1 r) λh=>by rw[bS.mp h];decide
  exact lim4 (ae this (by decide))
 ·have e2:((a++[0]).map λr=>V.int (r:Nat))=(tV (a++[0])).map .int:=by rw[tV,aL];rfl
  rw[e2]
  exact nl (srt ⟨by rw[tV,ak,aw];exact bc (aR la) (by decide),yH q⟩)
end
theorem yi{Q:Fw→aZ→Hp→Prop}{v:V}{hp0 hp:Hp}{t:Nat}(ht:0<t)(hv:∀h h',same v h h'):∀(l:List Nat)(c:Nat)(loc:aZ),(∀x∈l,x<128)→loc 66=some (.int (t:Nat))→loc 67=some (.int (c:Nat))→
 (∀loc',loc' 67=some (.int (colF t c l:Nat))→Q .next loc' hp)→de v hp0 (aG 68) iG Q (l.map λx=>.str [x]) loc hp:=by
 intro xs_
 induction xs_ with
 |nil=>
  intro c loc _ e66 e67 q
  exact q loc e67
 |cons x l ih=>
  intro c loc hl e66 e67 q
  refine gv ?_
  unfold iG
  have f66:upd loc 68 (.str [x]) 66=some (.int (t:Nat)):=(upd_ne (by decide)).trans e66
  have f67:upd loc 68 (.str [x]) 67=some (.int (c:Nat)):=(upd_ne (by decide)).trans e67
  have f68:upd loc 68 (.str [x]) 68=some (.str [x]):=us
  have hfm:(c:Int).fmod (t:Int)=((c % t:Nat):Int):=by
   rw[Int.fmod_eq_emod_of_nonneg _ (bk _)];rfl
  have hmod:=Nat.mod_le c t
  have e1:((c:Int) - ((c % t:Nat):Int)+(t:Int))=((c - c % t+t:Nat):Int):=congrArg (·+(t:Int)) (Cc hmod)
  refine sq ?_
  simp only[gO,Br,mA,bV,rd f68,e9,wU (hl x (by simp)) (show 32<128 by decide),kB,fW,rd f67,rd f66,mB,Bt,hfm,qB,e1,qz]
  by_cases hx:x=32
  ·refine iT (by simpa using hx) ?_
   refine nx (⟨hv _ _,ih (c+1) _ (λy hy=>hl y (by simp[hy])) ((upd_ne (by decide)).trans f66) us λloc' h=>q loc' ?_⟩)
   rw[h,colF,if_pos hx]
  ·refine iF (by simpa using hx) ?_
   refine⟨λz=>gz ht (fe z),nx (⟨hv _ _,ih (c - c % t+t) _ (λy hy=>hl y (by simp[hy])) ((upd_ne (by decide)).trans f66) us λloc' h=>q loc' ?_⟩)⟩
   rw[h,colF,if_neg hx]
theorem zN{t:Nat}(ht:0<t)(a:List Nat):colF t 0 (encR a)=cv (a,0) t:=by
 have:=zO ht (a,0)
 rw[hd,show ar 0 32=([]:List Nat)from rfl,aN]at this
 exact this
section
variable{Q:V→Hp→Prop}{X:XA}{hp:Hp}
theorem qY{a:List Nat}{t:Nat}(ht:0<t)(q:Q (.int (cv (a,0) t:Nat)) hp):gZ [.str (encR a),.int (t:Nat)] Q X hp:=by
 refine⟨[(65,.str (encR a)),(66,.int (t:Nat))],rfl,?_⟩
 have ha:(encR a).all (λx=>decide (x<128))=true:=b4.mpr λx hx=>by rcases encR_mem hx with rfl|rfl<;>decide
 unfold lZ
 refine sq (cn (gv (nsq (rv rfl ⟨(encR a).map λx=>.str [x],if_pos ha,?_⟩))))
 refine yi ht (by simp) (encR a) 0 _ (λx hx=>by rcases encR_mem hx with rfl|rfl<;>decide) rfl us λloc' h=>nsq ?_
 rw[zN ht]at h
 exact rv h (yH q)
variable{st:List St}(ok:kM st)
include ok
theorem ln(hl:st.length≤7)(hB:∀v≤4,2 ^ cV st v≤32):∀(n v:Nat),v<n→n≤5→∀{Q:V→Hp→Prop}{X:XA},Q (.lst ((jW st n v).map wT)) hp→cU n [.lst (st.map stV),.int (v:Nat)] Q X hp
 |n+1,v,hv,hn,Q,X,q=>by
  refine⟨[(51,.lst (st.map stV)),(1,.int (v:Nat))],rfl,?_⟩
  have o51:locOf [(51,V.lst (st.map stV)),(1,.int (v:Nat))] 51=some (.lst (st.map stV)):=rfl
  have o1:locOf [(51,V.lst (st.map stV)),(1,.int (v:Nat))] 1=some (.int (v:Nat)):=rfl
  generalize locOf [(51,V.lst (st.map stV)),(1,.int (v:Nat))]=lo at*
  have v4:v≤4:=aP (aA hv hn)
  have flat:(st.flatMap λs=>if decide (s.2.1=v)then((jW st n s.1).map (·++[s.2.2])).map wT else [])=(fR (jW st n) (ct st v)).map wT:=by
   rw[nQ (λs:St=>decide (s.2.1=v))]
   unfold fR
   rw[nV];rfl
  have len:(fR (jW st n) (ct st v)).length≤32:=by
   by_cases c:ct st v=[]
   ·rw[c];exact aD _
   ·have:=nK ok (n+1) v
    have e:jW st (n+1) v=fR (jW st n) (ct st v):=if_neg c
    rw[e]at this
    exact ae this (hB v v4)
  unfold oU
  refine sq (rv o51 ⟨_,rfl,?_⟩)
  refine kC (G:=Eq) (λy=>rfl) (λa b=>a.trans b) stV (λs=>if decide (s.2.1=v)then((jW st n s.1).map (·++[s.2.2])).map wT else []) st [] hp (by rw[flat,ak,cm,aW];exact ae len (by decide)) (λy y=>trivial) (λs hs hp1 e1 acc hacc R hR=>?_) λhp2 e2=>?_
  ·subst e1
   refine CY ?_
   have k1:keepL [1,51] lo 1=some (.int (v:Nat)):=o1
   have k51:keepL [1,51] lo 51=some (.lst (st.map stV)):=o51
   generalize keepL [1,51] lo=l0 at*
   have f1:upd (upd (upd l0 52 (.int (s.1:Nat))) 53 (.int (s.2.1:Nat))) 54 (.str (ig s.2.2)) 1=some (.int (v:Nat)):=(upd_ne (by decide)).trans ((upd_ne (by decide)).trans ((upd_ne (by decide)).trans k1))
   have f51:upd (upd (upd l0 52 (.int (s.1:Nat))) 53 (.int (s.2.1:Nat))) 54 (.str (ig s.2.2)) 51=some (.lst (st.map stV)):=(upd_ne (by decide)).trans ((upd_ne (by decide)).trans ((upd_ne (by decide)).trans k51))
   have f52:upd (upd (upd l0 52 (.int (s.1:Nat))) 53 (.int (s.2.1:Nat))) 54 (.str (ig s.2.2)) 52=some (.int (s.1:Nat)):=(upd_ne (by decide)).trans ((upd_ne (by decide)).trans us)
   have f53:upd (upd (upd l0 52 (.int (s.1:Nat))) 53 (.int (s.2.1:Nat))) 54 (.str (ig s.2.2)) 53=some (.int (s.2.1:Nat)):=(upd_ne (by decide)).trans us
   have f54:upd (upd (upd l0 52 (.int (s.1:Nat))) 53 (.int (s.2.1:Nat))) 54 (.str (ig s.2.2)) 54=some (.str (ig s.2.2)):=us
   generalize upd (upd (upd l0 52 (.int (s.1:Nat))) 53 (.int (s.2.1:Nat))) 54 (.str (ig s.2.2))=l1 at*
   refine rv f53 (rv f1 (eq_int (xb ?_)))
   by_cases c:s.2.1=v
   ·rw[if_pos (decide_eq_true c)]at hacc hR
    refine iT (decide_eq_true (congrArg _ c)) ?_
    have hs1:s.1<n:=aA (c▸(ok s hs).1) (aP hv)
    refine rv f51 (rv f52 (nl (ln hl hB n s.1 hs1 (c7 hn) ⟨_,rfl,?_⟩)))
    rw[aL,ak]at hacc
    refine kC (G:=Eq) (λy=>rfl) (λa b=>a.trans b) wT (λa=>[wT (a++[s.2.2])]) (jW st n s.1) acc _ (by rw[jf,ak];exact hacc) (λy y=>trivial) (λa ha hp3 e3 acc' ha' R' hR'=>?_) λhp3 e3=>?_
    ·subst e3
     have la:=enc_len (wys_ok ok ha) (aP (aA hs1 (c7 hn)))
     have lr:(ig s.2.2).length≤4:=by rw[ig,aw,cJ];exact aR (ok s hs).2.2
     refine gv (E3 ⟨lim4 (by simp at ha';omega),rv us (rv ((upd_ne (by decide)).trans f54) ⟨lim4 (by omega),?_⟩)⟩)
     have:=hR' _ rfl
     rw[wT,oS]at this
     exact this
    ·have:=hR _ e3
     rw[aL]at this
     rw[jf];exact this
   ·rw[if_neg (by simpa using c),aN]at hR
    exact iF (by simpa using λz=>c (fe z)) (hR _ rfl)
  ·subst e2
   rw[aX,flat]
   refine gv (nsq (rv us (nl ⟨aD _,_,rfl,rfl,xb ?_⟩)))
   by_cases c:ct st v=[]
   ·have e:jW st (n+1) v=[[]]:=if_pos c
    rw[e]at q
    rw[c]
    exact iF aH ⟨bi rfl,yH q⟩
   ·have e:jW st (n+1) v=fR (jW st n) (ct st v):=if_neg c
    have ne:=qu ok (n+1) v hv
    rw[e]at q ne
    refine iT ?_ (rv us (yH q))
    cases hh:fR (jW st n) (ct st v)with
    |nil=>exact absurd hh ne
    |cons _ _=>rfl
end
theorem kp{fr:List Nat}{loc:aZ}{i:Nat}{v:V}(h:loc i=some v)(hi:i∈fr:=by decide):keepL fr loc i=some v:=(if_pos hi).trans h
theorem rn{l rows:List Nat}{b j:Nat}{hp:Hp}(hj:j=47∨j=49∨j=42):cw cW j hp (wObj l rows b):=by
 refine⟨rfl,?_⟩
 rcases hj with rfl|rfl|rfl<;>rfl
theorem nOf3{a:List Nat}{n:Nat}(h:okA n a)(hn:n≤4):nOf a 0≤10000:=ae (mI h hn) (by decide)
section
variable{F:List (List Nat)}{n:Nat}
theorem qe{Q:Fw→aZ→Hp→Prop}{v:V}{hp0 hpI:Hp}{l:Addr}(hv:∀h h',same v h h')(hn:n≤4)(hF:∀a∈F,okA n a)(hz:F.length≤100):∀(L acc:List (List Nat))(loc:aZ),(∀a∈L,a∈F)→(∀a∈acc,a∈F)→acc.length+L.length≤100→loc 44=some (.lst (F.map wR))→loc 45=some (.ref l)→
 (∀loc',loc' 45=some (.ref l)→Q .next loc' (upd hpI l (.lst ((tW F acc L).map wR))))→de v hp0 (aG 46) gY Q (L.map wR) loc (upd hpI l (.lst (acc.map wR)))
 | [],acc,loc,_,_,_,_,e45,q=>q loc e45
 |a::L,acc,loc,hL,hacc,hl,e44,e45,q=>by
  refine gv ?_
  unfold gY
  have ha:=hF a (hL a (.head _))
  have na:=nOf3 ha hn
  rw[aE]at hl
  have f44:upd loc 46 (wR a) 44=some (.lst (F.map wR)):=(upd_ne (by decide)).trans e44
  have f45:upd loc 46 (wR a) 45=some (.ref l):=(upd_ne (by decide)).trans e45
  have f46:upd loc 46 (wR a) 46=some (wR a):=us
  generalize upd loc 46 (wR a)=l1 at*
  refine sq (rv f44 ⟨_,rfl,?_⟩)
  have k46:keepL [46] l1 46=some (wR a):=f46
  refine sK wR wR (λx=>fN a 0 x 0) (ae hz (by decide)) trivial (λx hx R hR=>rv ((upd_ne (by decide)).trans k46) ⟨rn (.inl rfl),rv us (nl (tj na (nOf3 (hF x hx) hn) ⟨_,rfl,nofun,hR⟩))⟩) (λx z z R hR=>rv us hR) ?_
  refine gv (nsq (rv ((upd_ne (by decide)).trans f45) ⟨_,m7 us,?_⟩))
  have k46':keepL [46] (upd l1 48 (.lst ((F.filter λx=>fN a 0 x 0).map wR))) 46=some (wR a):=kp ((upd_ne (by decide)).trans f46)
  refine sK wR wR (λx=>decide (cnt a=cnt x)) (ae (ae (ba _ _) hl) (by decide)) rfl (λx hx R hR=>rv ((upd_ne (by decide)).trans k46') ⟨rn (.inr (.inl rfl)),rv us (nl (uH ⟨_,rfl,nofun,?_⟩))⟩) (λx z z R hR=>rv us hR) ?_
  ·rw[show decide (cnt a=cnt x∧0=0)=decide (cnt a=cnt x)from decide_eq_decide.mpr (and_iff_left rfl)];exact hR
  have g48:upd (upd l1 48 (V.lst ((F.filter λx=>fN a 0 x 0).map wR))) 50 (.lst ((acc.filter λx=>decide (cnt a=cnt x)).map wR)) 48=some (.lst ((F.filter λx=>fN a 0 x 0).map wR)):=(upd_ne (by decide)).trans us
  have g50:upd (upd l1 48 (V.lst ((F.filter λx=>fN a 0 x 0).map wR))) 50 (.lst ((acc.filter λx=>decide (cnt a=cnt x)).map wR)) 50=some (.lst ((acc.filter λx=>decide (cnt a=cnt x)).map wR)):=us
  have g46:upd (upd l1 48 (V.lst ((F.filter λx=>fN a 0 x 0).map wR))) 50 (.lst ((acc.filter λx=>decide (cnt a=cnt x)).map wR)) 46=some (wR a):=(upd_ne (by decide)).trans ((upd_ne (by decide)).trans f46)
  have g45:upd (upd l1 48 (V.lst ((F.filter λx=>fN a 0 x 0).map wR))) 50 (.lst ((acc.filter λx=>decide (cnt a=cnt x)).map wR)) 45=some (.ref l):=(upd_ne (by decide)).trans ((upd_ne (by decide)).trans f45)
  have g44:upd (upd l1 48 (V.lst ((F.filter λx=>fN a 0 x 0).map wR))) 50 (.lst ((acc.filter λx=>decide (cnt a=cnt x)).map wR)) 44=some (.lst (F.map wR)):=(upd_ne (by decide)).trans ((upd_ne (by decide)).trans f44)
  refine gv (nsq ?_)
  generalize upd (upd l1 48 (V.lst ((F.filter λx=>fN a 0 x 0).map wR))) 50 (.lst ((acc.filter λx=>decide (cnt a=cnt x)).map wR))=l2 at*
  have emp:∀L:List (List Nat),(L.map wR).isEmpty=true↔L=[]:=λL=>by cases L<;>simp
  refine rv g48 (nl ⟨aD _,_,rfl,rfl,xb ?_⟩)
  have rest:∀acc',(∀x∈acc',x∈F)→acc'.length+L.length≤100→tW F acc' L=tW F acc (a::L)→same v hp0 (upd hpI l (.lst (acc'.map wR)))∧de v hp0 (aG 46) gY Q (L.map wR) l2 (upd hpI l (.lst (acc'.map wR))):=λacc' h1 h2 e=>
   ⟨hv _ _,qe hv hn hF hz L acc' l2 (λx hx=>hL x (.tail _ hx)) h1 h2 g44 g45 λloc' h=>e▸q loc' h⟩
  by_cases c1:F.filter (λx=>fN a 0 x 0)=[]
  ·refine iT ((emp _).mpr c1) (rv g50 (nl ⟨aD _,_,rfl,rfl,xb ?_⟩))
   by_cases c2:acc.filter (λx=>decide (cnt a=cnt x))=[]
   ·refine iT ((emp _).mpr c2) (iT rfl (sq (rv g45 ⟨isLst_ref us,rv g46 (nl (gF us ?_ (nx (nx ?_))))⟩)))
    ·rw[ak];exact lim4 (by omega)
    ·have e:acc.map wR++[wR a]=(acc++[a]).map wR:=by rw[bQ];rfl
     rw[lH,e]
     exact rest (acc++[a]) (λx hx=>(az.mp hx).elim (hacc x) λh=>bS.mp h▸hL a (.head _)) (by rw[aw,b8];omega) (by rw[tW,if_pos ⟨c1,c2⟩])
   ·refine iF (λh=>c2 ((emp _).mp h)) (iF aH (nx (rest acc hacc (by omega) (by rw[tW,if_neg λh=>c2 h.2]))))
  ·refine iF (λh=>c1 ((emp _).mp h)) (iF aH (nx (rest acc hacc (by omega) (by rw[tW,if_neg λh=>c1 h.1]))))
theorem tR{Q:V→Hp→Prop}{X:XA}{hp:Hp}(hn:n≤4)(hF:∀a∈F,okA n a)(hz:F.length≤100)(q:Q (.lst ((tW F [] F).map wR)) hp):jF [.lst (F.map wR)] Q X hp:=by
 refine⟨[(44,.lst (F.map wR))],rfl,?_⟩
 have o44:locOf [(44,V.lst (F.map wR))] 44=some (.lst (F.map wR)):=rfl
 generalize locOf [(44,V.lst (F.map wR))]=lo at*
 unfold oW
 refine sq ⟨aD _,λl hl=>gv (nsq (rv ((upd_ne (by decide)).trans o44) ⟨_,rfl,?_⟩))⟩
 refine qe (hpI:=hp) (l:=l) (by simp) hn hF hz F [] _ (λz h=>h) (λz h=>(nomatch h)) (by simpa using hz) ((upd_ne (by decide)).trans o44) us λloc' h=>nsq ⟨l,_,h,us,yH ?_⟩
 rw[lI hl];exact q
end
noncomputable def mxI:List Int→Int
 | []=>0
 | [a]=>a
 |a::b::l=>max a (mxI (b::l))
theorem lS:∀l:List Int,l≠ []→mxI l∈l∧∀x∈l,x≤mxI l
 | [],h=>absurd rfl h
 | [a],_=>⟨.head _,λx hx=>by rw[bS.mp hx];exact lc _⟩
 |a::b::l,_=>by
  obtain⟨h1,h2⟩:=lS (b::l) nofun
  show max a (mxI (b::l))∈_∧∀x∈_,x≤max a (mxI (b::l))
  rcases tx a (mxI (b::l))with h|h
  ·rw[d6 h]
   exact⟨.tail _ h1,λx hx=>(ah.mp hx).elim (λe=>e▸h) (h2 x)⟩
  ·rw[pE h]
   exact⟨.head _,λx hx=>(ah.mp hx).elim (λe=>e▸lc _) λhx=>dy (h2 x hx) h⟩
theorem qG{l:List Int}{M:Int}(h1:M∈l)(h2:∀x∈l,x≤M):M=mxI l:=by
 obtain⟨a,b⟩:=lS l (mf h1)
 exact pF (b M h1) (h2 _ a)
theorem nM{Q:V→Hp→Prop}{X:XA}{hp:Hp}{ns:List Int}(h:ns≠ [])(q:Q (.int (mxI ns)) hp):mY [.lst (ns.map .int)] Q X hp:=
 ⟨_,_,ns,rfl,rfl,jD ns,h,λM h1 h2=>qG h1 h2▸q⟩
section
variable{F:List (List Nat)}{n:Nat}{sizes:List Nat}
noncomputable def colV(sizes:List Nat)(a:List Nat):V:=.lst (sizes.map λt=>.int (cv (a,0) t:Nat))
theorem ot{α:Type}(f g:α→V):∀xs:List α,zip2 (xs.map f) (xs.map g)=xs.map λx=>.tup [f x,g x]
 | []=>rfl
 |x::xs=>by show _::zip2 _ _=_;rw[ot f g xs];rfl
theorem qg{a x:List Nat}:∀ts:List Nat,(ts.filter λt=>decide (cv (x,0) t≤cv (a,0) t)).isEmpty=po ts a x
 | []=>rfl
 |t::ts=>by
  have ih:=qg (a:=a) (x:=x) ts
  unfold po at ih⊢
  rw[aQ,lW]
  by_cases c:cv (x,0) t≤cv (a,0) t
  ·rw[if_pos (decide_eq_true c),decide_eq_false (gQ c)];rfl
  ·rw[if_neg (by simpa using c),decide_eq_true (fu c),Bool.true_and];exact ih
theorem oP(vs:List V)(k:Nat):d0 vs (k:Int)=vs[k]?:=by
 unfold d0;rw[if_pos (bk _),a9]
theorem sp{R:Bool→Hp→Prop}{loc:aZ}{hp:Hp}{a x:List Nat}(hs:sizes.length≤100)(e67:loc 67=some (colV sizes a))(e39:loc 39=some (colV sizes x))(h:R (po sizes a x) hp):
 cF uW (tg [] (aS t5 (av (ap 67) (av (ap 39) aF))) (ij ([73,74].map aG)) (cF (k4 λa b=>decide (b≤a)) (ap 73) (ap 74)) (eM (aJ (.int 1)))) (i3 aF) R noXA loc hp:=by
 refine rv e67 (rv e39 (nl ⟨_,_,rfl,by rw[ak,ak];exact bx _,λz hp' Z=>⟨z,hp,_,rfl,ot (λt=>V.int (cv (a,0) t:Nat)) (λt=>V.int (cv (x,0) t:Nat)) sizes▸Z,?_⟩⟩))
 refine oH (λt=>V.tup [.int (cv (a,0) t:Nat),.int (cv (x,0) t:Nat)]) (λt=>decide (cv (x,0) t≤cv (a,0) t)) (λy=>.int 1) sizes [] hp (by rw[cm,aW];exact lim4 (ae hs (by decide))) trivial (λt y acc ha K hK=>CZ (rv ((upd_ne (by decide)).trans us) (rv us (xb ?_)))) ⟨aD _,_,rfl,rfl,xb ?_⟩
 ·by_cases c:cv (x,0) t≤cv (a,0) t
  ·rw[if_pos (decide_eq_true c)]at hK
   exact iT (decide_eq_true (bI.mpr c)) ⟨ha,hK⟩
  ·rw[if_neg (by simpa using c)]at hK
   exact iF (by simpa using c) hK
 ·have e:(([]:List V)++(sizes.filter λt=>decide (cv (x,0) t≤cv (a,0) t)).map λy=>V.int 1).isEmpty=po sizes a x:=by
   rw[aX,yE];exact qg sizes
  rw[e];exact h
theorem xt{hp:Hp}{l:Addr}{B:List (List Int)}(h:hp l=some (.lst (B.map bagV))):toD hp (.ref l)=some (.list (B.map dI)):=by
 show((pR hp l).bind iO).map _=_
 rw[xE h,dT,pV bagV dI ow];rfl
theorem tF{Q:V→Hp→Prop}{hp:Hp}{l:Addr}{b:List Int}{B:List (List Int)}(h:hp l=some (.lst (B.map bagV)))(q:Q (.bool (!decide (b∈B))) hp):tm (bagV b) (.ref l) Q hp:=by
 refine⟨decide (b∈B),?_,q⟩
 rw[inRes_o h]
 exact⟨_,_,xt h,ow b,mH B,u9 b,(Bw b B).symm⟩
theorem rY{Q:Fw→aZ→Hp→Prop}{hp0 hpI:Hp}{l:Addr}(hn:n≤4)(hF:∀a∈F,okA n a)(hz:F.length≤100)(hs:sizes.length≤100):∀(L:List (List Nat))(acc:List (List Int))(loc:aZ),(∀a∈L,a∈F)→acc.length+L.length≤100→loc 71=some (.lst (F.map (colV sizes)))→loc 72=some (.ref l)→
 (∀loc',(∀i,i≠63→i≠67→i≠48→loc' i=loc i)→Q .next loc' (upd hpI l (.lst ((mn F (po sizes) acc L).map bagV))))→de .none hp0 (ij ([63,67].map aG)) iU Q (L.map λa=>.tup [wT a,colV sizes a]) loc (upd hpI l (.lst (acc.map bagV)))
 | [],acc,loc,_,_,_,_,q=>q loc λz z z z=>rfl
 |a::L,acc,loc,hL,hl,e71,e72,q=>by
  refine CZ ?_
  unfold iU
  have ha:=hF a (hL a (.head _))
  rw[aE]at hl
  have f71:upd (upd loc 63 (wT a)) 67 (colV sizes a) 71=some (.lst (F.map (colV sizes))):=(upd_ne (by decide)).trans ((upd_ne (by decide)).trans e71)
  have f72:upd (upd loc 63 (wT a)) 67 (colV sizes a) 72=some (.ref l):=(upd_ne (by decide)).trans ((upd_ne (by decide)).trans e72)
  have f63:upd (upd loc 63 (wT a)) 67 (colV sizes a) 63=some (wT a):=(upd_ne (by decide)).trans us
  have f67:upd (upd loc 63 (wT a)) 67 (colV sizes a) 67=some (colV sizes a):=us
  have fo:∀i,i≠63→i≠67→upd (upd loc 63 (wT a)) 67 (colV sizes a) i=loc i:=λi h1 h2=>(upd_ne h2).trans (upd_ne h1)
  generalize upd (upd loc 63 (wT a)) 67 (colV sizes a)=l1 at*
  refine sq (rv f71 ⟨_,rfl,?_⟩)
  have k67:keepL [67] l1 67=some (colV sizes a):=f67
  refine sK (colV sizes) (colV sizes) (λx=>po sizes a x) (ae hz (by decide)) trivial (λx hx R hR=>sp hs ((upd_ne (by decide)).trans k67) us hR) (λx z z R hR=>rv us hR) (gv (nsq ?_))
  refine rv us (nl ⟨aD _,_,rfl,rfl,xb ?_⟩)
  have g63:upd l1 48 (.lst ((F.filter λx=>po sizes a x).map (colV sizes))) 63=some (wT a):=(upd_ne (by decide)).trans f63
  have g71:upd l1 48 (.lst ((F.filter λx=>po sizes a x).map (colV sizes))) 71=some (.lst (F.map (colV sizes))):=(upd_ne (by decide)).trans f71
  have g72:upd l1 48 (.lst ((F.filter λx=>po sizes a x).map (colV sizes))) 72=some (.ref l):=(upd_ne (by decide)).trans f72
  have go:∀i,i≠63→i≠67→i≠48→upd l1 48 (.lst ((F.filter λx=>po sizes a x).map (colV sizes))) i=loc i:=λi h1 h2 h3=>(upd_ne h3).trans (fo i h1 h2)
  generalize upd l1 48 (.lst ((F.filter λx=>po sizes a x).map (colV sizes)))=l2 at*
  have emp:((F.filter λx=>po sizes a x).map (colV sizes)).isEmpty=true↔F.filter (po sizes a)=[]:=by
   rw[yE];exact List.isEmpty_iff
  have rest:∀acc',acc'.length+L.length≤100→mn F (po sizes) acc' L=mn F (po sizes) acc (a::L)→same .none hp0 (upd hpI l (.lst (acc'.map bagV)))∧de .none hp0 (ij ([63,67].map aG)) iU Q (L.map λa=>.tup [wT a,colV sizes a]) l2 (upd hpI l (.lst (acc'.map bagV))):=λacc' h2 e=>
   ⟨trivial,rY hn hF hz hs L acc' l2 (λx hx=>hL x (.tail _ hx)) h2 g71 g72 λloc' h=>e▸q loc' λi h1 h2 h3=>(h i h1 h2 h3).trans (go i h1 h2 h3)⟩
  by_cases c1:F.filter (po sizes a)=[]
  ·refine iT (emp.mpr c1) (rv g63 (nl (mQ ha hn (rv g72 (tF us (xb ?_))))))
   by_cases c2:key a∈acc
   ·rw[decide_eq_true c2]
    exact iF aH (iF aH (nx (rest acc (by omega) (by rw[mn,if_neg λh=>h.2 c2]))))
   ·rw[decide_eq_false c2]
    refine iT rfl (iT rfl (sq (rv g72 ⟨isLst_ref us,rv g63 (nl (mQ ha hn (nl (gF us ?_ (nx (nx ?_))))))⟩)))
    ·rw[ak];exact lim4 (by omega)
    ·have e:acc.map bagV++[bagV (key a)]=(acc++[key a]).map bagV:=by rw[bQ];rfl
     rw[lH,e]
     exact rest (acc++[key a]) (by rw[aw,b8];omega) (by rw[mn,if_pos ⟨c1,c2⟩])
  ·exact iF (λh=>c1 (emp.mp h)) (iF aH (nx (rest acc (by omega) (by rw[mn,if_neg λh=>c1 h.1]))))
theorem uy{F:List (List Nat)}{bd:List Nat→List Nat→Bool}:∀(L:List (List Nat))(acc:List (List Int)),(mn F bd acc L).length≤acc.length+L.length
 | [],acc=>bx _
 |a::L,acc=>by
  refine ae (uy L _) ?_
  split
  ·rw[aw,b8,aE];omega
  ·rw[aE];omega
theorem vN{Q:V→Hp→Prop}{X:XA}{hp:Hp}(hn:n≤4)(hF:∀a∈F,okA n a)(hz:F.length≤60)(h0:F≠ [])(hs:sizes.length≤100)(h1:∀t∈sizes,1≤t)
 (q:∀hp',Grow hp hp'→Q (.tup [.lst ((sortL (mn F (po sizes) [] F)).map bagV),.lst ((sizes.map λt=>mxI (F.map λa=>((cv (a,0) t:Nat):Int))).map .int)]) hp'):kG [.lst (F.map wT),.lst (sizes.map λt=>.int (t:Nat))] Q X hp:=by
 refine⟨[(64,.lst (F.map wT)),(70,.lst (sizes.map λt=>.int (t:Nat)))],rfl,?_⟩
 have o64:locOf [(64,V.lst (F.map wT)),(70,V.lst (sizes.map λt=>.int (t:Nat)))] 64=some (.lst (F.map wT)):=rfl
 have o70:locOf [(64,V.lst (F.map wT)),(70,V.lst (sizes.map λt=>.int (t:Nat)))] 70=some (.lst (sizes.map λt=>.int (t:Nat))):=rfl
 generalize locOf [(64,V.lst (F.map wT)),(70,V.lst (sizes.map λt=>.int (t:Nat)))]=lo at*
 unfold qi
 have k70:keepL [70] lo 70=some (.lst (sizes.map λt=>.int (t:Nat))):=o70
 refine sq (rv o64 ⟨_,rfl,qr wT (colV sizes) (ae hz (by decide)) trivial (λa ha R hR=>rv ((upd_ne (by decide)).trans k70) ⟨_,rfl,?_⟩) (gv (nsq ⟨aD _,λl hl=>gv (nsq ?_)⟩))⟩)
 ·have k63:keepL [63] (upd (keepL [70] lo) 63 (wT a)) 63=some (wT a):=kp us
  exact qr (λt:Nat=>V.int (t:Nat)) (λt=>V.int (cv (a,0) t:Nat)) (ae hs (by decide)) trivial (λt ht R' hR'=>rv ((upd_ne (by decide)).trans k63) (rv us (nl (qY (h1 t ht) hR')))) hR
 have a64:upd (upd lo 71 (.lst (F.map (colV sizes)))) 72 (.ref l) 64=some (.lst (F.map wT)):=(upd_ne (by decide)).trans ((upd_ne (by decide)).trans o64)
 have a71:upd (upd lo 71 (.lst (F.map (colV sizes)))) 72 (.ref l) 71=some (.lst (F.map (colV sizes))):=(upd_ne (by decide)).trans us
 have a72:upd (upd lo 71 (.lst (F.map (colV sizes)))) 72 (.ref l) 72=some (.ref l):=us
 have a70:upd (upd lo 71 (.lst (F.map (colV sizes)))) 72 (.ref l) 70=some (.lst (sizes.map λt=>.int (t:Nat))):=(upd_ne (by decide)).trans ((upd_ne (by decide)).trans o70)
 generalize upd (upd lo 71 (.lst (F.map (colV sizes)))) 72 (.ref l)=l1 at*
 refine rv a64 (rv a71 (nl ⟨_,_,rfl,by rw[ak,ak];exact bx _,λz hp' Z=>⟨z,_,_,rfl,ot wT (colV sizes) F▸Z,?_⟩⟩))
 refine rY (hpI:=hp) (l:=l) hn hF (ae hz (by decide)) hs F [] l1 (λy h=>h) (by rw[cm,aW];exact ae hz (by decide)) a71 a72 λl2 h2=>nsq ?_
 have b71:=(h2 71 (by decide) (by decide) (by decide)).trans a71
 have b72:=(h2 72 (by decide) (by decide) (by decide)).trans a72
 have b70:=(h2 70 (by decide) (by decide) (by decide)).trans a70
 have dl:=uy (F:=F) (bd:=po sizes) F []
 rw[cm,aW]at dl
 refine rv b72 (nl ⟨_,mn F (po sizes) [] F,rfl,listOf_ref us,bc (ae dl hz) (by decide),?_⟩)
 have ns:(sizes.map λt=>V.int (t:Nat)).length=sizes.length:=ak ..
 have k71:keepL [71] l2 71=some (.lst (F.map (colV sizes))):=b71
 refine wA (λk=>V.int (mxI (F.map λa=>((cv (a,0) (sizes.getD k 0):Nat):Int)))) (ae hs (by decide)) (λR hR=>rv b70 (nl (FH ⟨lim4 (by rw[ns];exact ae hs (by decide)),by rw[ns];exact hR⟩))) (λk hk R hR=>rv ((upd_ne (by decide)).trans k71) ⟨_,rfl,?_⟩) ?_
 ·have k75:keepL [75] (upd (keepL [71] l2) 75 (.int (k:Nat))) 75=some (.int (k:Nat)):=kp us
  refine qr (colV sizes) (λa=>V.int (cv (a,0) (sizes.getD k 0):Nat)) (ae hz (by decide)) trivial (λa ha R' hR'=>rv us (rv ((upd_ne (by decide)).trans k75) (E1 ⟨lim4 (by rw[ak];exact ae hs (by decide)),_,?_,hR'⟩))) (nl ?_)
  ·rw[oP,b9,bF,au hk];rfl
  ·have e:(F.map λa=>V.int (cv (a,0) (sizes.getD k 0):Nat))=(F.map λa=>((cv (a,0) (sizes.getD k 0):Nat):Int)).map .int:=by rw[aL];rfl
   rw[e]
   exact nM (by simpa using h0) hR
 ·have e:((aV sizes.length).map λk=>V.int (mxI (F.map λa=>((cv (a,0) (sizes.getD k 0):Nat):Int))))=(sizes.map λt=>mxI (F.map λa=>((cv (a,0) t:Nat):Int))).map .int:=by
   rw[aL]
   apply yv
   intro k
   rw[b9,b9]
   by_cases hk:k<sizes.length
   ·rw[dj hk,au hk,bW,bW,bF,au hk];rfl
   ·rw[bH (by simpa using hk),bH (cz hk)];rfl
  rw[e]
  exact nl ⟨bi rfl,yH (q _ (Grow.new hl))⟩
end
structure SS where
 nodes:List Int
 np:Int→Int
 succ:Int→List Int
 ready:Option (List Int)
 pass:Int
 fin:Int
noncomputable def setF{α:Type}(f:Int→α)(n:Int)(v:α):Int→α:=λm=>if m=n then v else f m
noncomputable def zZ(R:Addr):Option (List Int)→V
 |none=>.none
 |some _=>.ref R
noncomputable def vI(n k:Int)(l:Addr):O:=.sl cN [some (.int n),some (.int k),some (.ref l)]
structure Rep(Z hp:Hp)(x dd D:Addr)(ia la:Int→Addr)(R:Addr)(S:SS):Prop where
 hx:hp x=some (.inst cT dd)
 hd:hp dd=some (.ns [(2,.ref D),(5,zZ R S.ready),(11,.int S.pass),(12,.int S.fin)])
 hD:∃ep,hp D=some (.dict (S.nodes.map λn=>(n,V.ref (ia n))) ep)
 hi:∀n∈S.nodes,hp (ia n)=some (vI n (S.np n) (la n))
 hl:∀n∈S.nodes,hp (la n)=some (.lst ((S.succ n).map .int))
 hr:∀r,S.ready=some r→hp R=some (.lst (r.map .int))
 ii:∀n∈S.nodes,∀m∈S.nodes,ia n=ia m→n=m
 ll:∀n∈S.nodes,∀m∈S.nodes,la n=la m→n=m
 lR:S.ready≠none→∀n∈S.nodes,la n≠R
 nd:S.nodes.Nodup
 df:∀m,m∉S.nodes→S.np m=0∧S.succ m=[]
 gr:Grow Z hp
 ox:Z x=ac
 od:Z dd=ac
 oD:Z D=ac
 oi:∀n∈S.nodes,Z (ia n)=ac∧Z (la n)=ac
 oR:S.ready≠none→Z R=ac
 sz:S.nodes.length≤1000
noncomputable def kZ(Z hp:Hp)(x:Addr)(S:SS):Prop:=∃dd D ia la R,Rep Z hp x dd D ia la R S
theorem Rep.grow{Z hp hp':Hp}{x dd D R:Addr}{ia la:Int→Addr}{S:SS}(r:Rep Z hp x dd D ia la R S)(g:Grow hp hp'):Rep Z hp' x dd D ia la R S:=
 {r with hx:=g _ _ r.hx,hd:=g _ _ r.hd,hD:=(by obtain⟨ep,h⟩:=r.hD;exact⟨ep,g _ _ h⟩),hi:=λn h=>g _ _ (r.hi n h),hl:=λn h=>g _ _ (r.hl n h),hr:=λq h=>g _ _ (r.hr q h),gr:=r.gr.trans g}
theorem kZ.grow{Z hp hp':Hp}{x:Addr}{S:SS}(r:kZ Z hp x S)(g:Grow hp hp'):kZ Z hp' x S:=(by obtain⟨dd,D,ia,la,R,r⟩:=r;exact⟨dd,D,ia,la,R,r.grow g⟩)
theorem ne_of{hp:Hp}{a b:Addr}{o o':O}(h:hp a=some o)(h':hp b=some o')(n:o≠o'):a≠b:=by
 rintro rfl;rw[h]at h';cases h';exact n rfl
theorem ne_none{hp:Hp}{a b:Addr}{o:O}(h:hp a=some o)(h':hp b=ac):a≠b:=by
 rintro rfl;rw[h]at h';cases h'
theorem upd_ne'{hp:Hp}{a b:Addr}{o:O}(h:b≠a):upd hp a o b=hp b:=upd_ne h
theorem kZ.other{Z hp:Hp}{x:Addr}{S:SS}(r:kZ Z hp x S){g:Addr}{o:O}(h:hp g=ac∨∃o',Z g=some o'):kZ (upd Z g o) (upd hp g o) x S:=by
 obtain⟨dd,D,ia,la,R,r⟩:=r
 have key:∀a o',hp a=some o'→Z a=ac→a≠g:=by
  intro a o' h1 h2
  rintro rfl
  rcases h with h|⟨o'',h⟩
  ·rw[h]at h1;cases h1
  ·rw[h]at h2;cases h2
 have U:∀a o',hp a=some o'→Z a=ac→upd hp g o a=some o':=λa o' h1 h2=>by rw[upd_ne (key a o' h1 h2)];exact h1
 have W:∀a o',hp a=some o'→Z a=ac→upd Z g o a=ac:=λa o' h1 h2=>by rw[upd_ne (key a o' h1 h2)];exact h2
 obtain⟨ep,hD⟩:=r.hD
 refine⟨dd,D,ia,la,R,{r with
  hx:=U _ _ r.hx r.ox,hd:=U _ _ r.hd r.od,hD:=⟨ep,U _ _ hD r.oD⟩,hi:=λn h=>U _ _ (r.hi n h) (r.oi n h).1,hl:=λn h=>U _ _ (r.hl n h) (r.oi n h).2
  hr:=λq h=>U _ _ (r.hr q h) (r.oR (by rw[h];simp)),gr:=?_,ox:=W _ _ r.hx r.ox,od:=W _ _ r.hd r.od,oD:=W _ _ hD r.oD,oi:=λn h=>⟨W _ _ (r.hi n h) (r.oi n h).1,W _ _ (r.hl n h) (r.oi n h).2⟩
  oR:=λh=>?_}⟩
 ·intro a o' e
  by_cases c:a=g
  ·subst c;rw[upd_same]at e⊢;exact e
  ·rw[upd_ne c]at e⊢;exact r.gr _ _ e
 ·cases q:S.ready with
  |none=>exact absurd q h
  |some z=>exact W _ _ (r.hr z q) (r.oR h)
theorem kZ.drop{Z hp:Hp}{x:Addr}{S:SS}(r:kZ Z hp x S){g:Addr}(h:∃o',Z g=some o'):kZ (del Z g) (del hp g) x S:=by
 obtain⟨dd,D,ia,la,R,r⟩:=r
 obtain⟨o'',h⟩:=h
 have key:∀a,Z a=ac→a≠g:=by
  intro a h2
  rintro rfl
  rw[h]at h2;cases h2
 have U:∀a o',hp a=some o'→Z a=ac→del hp g a=some o':=λa o' h1 h2=>by rw[del_ne (key a h2)];exact h1
 have W:∀a,Z a=ac→del Z g a=ac:=λa h2=>by rw[del_ne (key a h2)];exact h2
 obtain⟨ep,hD⟩:=r.hD
 refine⟨dd,D,ia,la,R,{r with
  hx:=U _ _ r.hx r.ox,hd:=U _ _ r.hd r.od,hD:=⟨ep,U _ _ hD r.oD⟩,hi:=λn h=>U _ _ (r.hi n h) (r.oi n h).1,hl:=λn h=>U _ _ (r.hl n h) (r.oi n h).2
  hr:=λq h=>U _ _ (r.hr q h) (r.oR (by rw[h];simp)),gr:=?_,ox:=W _ r.ox,od:=W _ r.od,oD:=W _ r.oD,oi:=λn h=>⟨W _ (r.oi n h).1,W _ (r.oi n h).2⟩
  oR:=λh=>W _ (r.oR h)}⟩
 intro a o' e
 by_cases c:a=g
 ·subst c;rw[lT]at e;cases e
 ·rw[del_ne c]at e⊢;exact r.gr _ _ e
section
variable{Z hp:Hp}{x dd D R:Addr}{ia la:Int→Addr}{S:SS}
theorem Rep.setNp(r:Rep Z hp x dd D ia la R S){n k:Int}(hn:n∈S.nodes):Rep Z (upd hp (ia n) (vI n k (la n))) x dd D ia la R {S with np:=setF S.np n k}:=by
 obtain⟨ep,hD⟩:=r.hD
 have e:=r.hi n hn
 refine{r with hx:=?_,hd:=?_,hD:=⟨ep,?_⟩,hi:=λm hm=>?_,hl:=λm hm=>?_,hr:=λq h=>?_,df:=λm hm=>?_,gr:=r.gr.upd (r.oi n hn).1}
 ·rw[upd_ne (ne_of r.hx e (by simp[vI]))];exact r.hx
 ·rw[upd_ne (ne_of r.hd e (by simp[vI]))];exact r.hd
 ·rw[upd_ne (ne_of hD e (by simp[vI]))];exact hD
 ·by_cases c:m=n
  ·subst c;simp[setF]
  ·rw[upd_ne (λz=>c (r.ii m hm n hn z))];simp only[setF,if_neg c];exact r.hi m hm
 ·rw[upd_ne (ne_of (r.hl m hm) e (by simp[vI]))];exact r.hl m hm
 ·rw[upd_ne (ne_of (r.hr q h) e (by simp[vI]))];exact r.hr q h
 ·have:m≠n:=by rintro rfl;exact hm hn
  simp only[setF,if_neg this];exact r.df m hm
theorem Rep.setSucc(r:Rep Z hp x dd D ia la R S){n:Int}{l:List Int}(hn:n∈S.nodes):Rep Z (upd hp (la n) (.lst (l.map .int))) x dd D ia la R {S with succ:=setF S.succ n l}:=by
 obtain⟨ep,hD⟩:=r.hD
 have e:=r.hl n hn
 refine{r with hx:=?_,hd:=?_,hD:=⟨ep,?_⟩,hi:=λm hm=>?_,hl:=λm hm=>?_,hr:=λq h=>?_,df:=λm hm=>?_,gr:=r.gr.upd (r.oi n hn).2}
 ·rw[upd_ne (ne_of r.hx e (by simp))];exact r.hx
 ·rw[upd_ne (ne_of r.hd e (by simp))];exact r.hd
 ·rw[upd_ne (ne_of hD e (by simp))];exact hD
 ·rw[upd_ne (ne_of (r.hi m hm) e (by simp[vI]))];exact r.hi m hm
 ·by_cases c:m=n
  ·subst c;simp[setF]
  ·rw[upd_ne (λz=>c (r.ll m hm n hn z))];simp only[setF,if_neg c];exact r.hl m hm
 ·rw[upd_ne (λz=>r.lR (by rw[h];simp) n hn z.symm)];exact r.hr q h
 ·have:m≠n:=by rintro rfl;exact hm hn
  simp only[setF,if_neg this];exact r.df m hm
theorem Rep.setReady(r:Rep Z hp x dd D ia la R S){q₀ q:List Int}(h:S.ready=some q₀):Rep Z (upd hp R (.lst (q.map .int))) x dd D ia la R {S with ready:=some q}:=by
 obtain⟨ep,hD⟩:=r.hD
 have e:=r.hr _ h
 have hne:S.ready≠none:=by rw[h];simp
 refine{r with hx:=?_,hd:=?_,hD:=⟨ep,?_⟩,hi:=λm hm=>?_,hl:=λm hm=>?_,hr:=λq h=>?_,lR:=λz=>r.lR hne,gr:=r.gr.upd (r.oR hne),oR:=λz=>r.oR hne}
 ·rw[upd_ne (ne_of r.hx e (by simp))];exact r.hx
 ·rw[upd_ne (ne_of r.hd e (by simp))];have:=r.hd;rw[h]at this;exact this
 ·rw[upd_ne (ne_of hD e (by simp))];exact hD
 ·rw[upd_ne (ne_of (r.hi m hm) e (by simp[vI]))];exact r.hi m hm
 ·rw[upd_ne (r.lR hne m hm)];exact r.hl m hm
 ·cases h;simp
theorem Rep.setD(r:Rep Z hp x dd D ia la R S){p f:Int}:Rep Z (upd hp dd (.ns [(2,.ref D),(5,zZ R S.ready),(11,.int p),(12,.int f)])) x dd D ia la R {S with pass:=p,fin:=f}:=by
 obtain⟨ep,hD⟩:=r.hD
 have e:=r.hd
 refine{r with hx:=?_,hd:=?_,hD:=⟨ep,?_⟩,hi:=λm hm=>?_,hl:=λm hm=>?_,hr:=λq h=>?_,gr:=r.gr.upd r.od}
 ·rw[upd_ne (ne_of r.hx e (by simp))];exact r.hx
 ·simp
 ·rw[upd_ne (ne_of hD e (by simp))];exact hD
 ·rw[upd_ne (ne_of (r.hi m hm) e (by simp[vI]))];exact r.hi m hm
 ·rw[upd_ne (ne_of (r.hl m hm) e (by simp))];exact r.hl m hm
 ·rw[upd_ne (ne_of (r.hr q h) e (by simp))];exact r.hr q h
end
theorem tP{Q:V→Hp→Prop}{X:XA}{hp:Hp}{n:Int}(q:∀i l hp',hp i=ac→hp l=ac→i≠l→hp' i=some (vI n 0 l)→hp' l=some (.lst [])→(∀a,a≠i→a≠l→hp' a=hp a)→Q (.ref i) hp'):ta cN fG [.int n] Q X hp:=by
 intro i hi
 refine⟨[(0,.ref i),(1,.int n)],rfl,?_⟩
 have e0:(upd hp i (.sl cN [])) i=some (.sl cN []):=upd_same ..
 have uu:∀o o',upd (upd hp i o) i o'=upd hp i o':=λo o'=>by funext j;simp only[upd];split<;>rfl
 have sS:∀(vs:List (Option V))(k:Nat)(v:V)(K:Hp→Prop),j6 cN k (.ref i) v K (upd hp i (.sl cN vs))=K (upd hp i (.sl cN (kU vs k v))):=λvs k v K=>by rw[setS_ref (upd_same ..),uu]
 simp[jU,↓sS,kU]
 intro l hl
 have hli:l≠i:=by rintro rfl;simp at hl
 rw[upd_ne hli]at hl
 have e2:(upd (upd hp i (.sl cN [some (.int n),some (.int 0)])) l (.lst [])) i=some (.sl cN [some (.int n),some (.int 0)]):=by rw[upd_ne (aI hli)];simp
 rw[setS_ref e2]
 refine q i l _ hi hl (aI hli) (by simp[kU,vI]) (by rw[upd_ne hli];simp) λa n1 n2=>?_
 rw[upd_ne n1,upd_ne n2,upd_ne n1]
section
variable{Z hp:Hp}{x dd D R:Addr}{ia la:Int→Addr}{S:SS}
noncomputable def fk(S:SS)(n:Int):SS:={S with nodes:=if n∈S.nodes then S.nodes else S.nodes++[n]}
theorem Rep.at(r:Rep Z hp x dd D ia la R S){i:Nat}{v:V}{Q:V→Hp→Prop}(h:jk i [(2,V.ref D),(5,zZ R S.ready),(11,.int S.pass),(12,.int S.fin)]=some v)(n:j4 v=true):bn cT i (.ref x) Q hp=Q v hp:=at_ref r.hx r.hd h n
theorem find_nodes(ia:Int→Addr)(n:Int):∀nodes:List Int,eAt (nodes.map λm=>(m,V.ref (ia m))) n=if n∈nodes then some (.ref (ia n))else ac:=by
 intro xs_
 induction xs_ with
 |nil=>
  simp[eAt]
 |cons m ms IH=>
  have ih:=IH
  unfold eAt at ih⊢
  rw[ao,dO]
  by_cases c:m=n
  ·subst c;simp
  ·have:¬n=m:=λz=>c z.symm
   simp only[c,decide_false,ah,this,false_or]
   exact ih
theorem Rep.add(r:Rep Z hp x dd D ia la R S){n:Int}(hn:n∉S.nodes)(hz:S.nodes.length+1≤1000){i l:Addr}{hp':Hp}{ep:Nat}(hi:hp i=ac)(hl:hp l=ac)(hil:i≠l)(ei:hp' i=some (vI n 0 l))(el:hp' l=some (.lst []))(eD:hp' D=some (.dict (S.nodes.map (λm=>(m,V.ref (ia m)))++[(n,V.ref i)]) ep))(eo:∀a,a≠i→a≠l→a≠D→hp' a=hp a):
 Rep Z hp' x dd D (setF ia n i) (setF la n l) R (fk S n):=by
 have hns:(fk S n).nodes=S.nodes++[n]:=by simp[fk,hn]
 obtain⟨ep0,hD⟩:=r.hD
 have ne:∀m∈S.nodes,m≠n:=λm hm=>by rintro rfl;exact hn hm
 have keep:∀a o,hp a=some o→a≠D→hp' a=some o:=λa o h h2=>by rw[eo a (ne_none h hi) (ne_none h hl) h2];exact h
 have iam:∀m∈S.nodes,setF ia n i m=ia m:=λm hm=>by simp[setF,ne m hm]
 have lam:∀m∈S.nodes,setF la n l m=la m:=λm hm=>by simp[setF,ne m hm]
 have ian:setF ia n i n=i:=by simp[setF]
 have lan:setF la n l n=l:=by simp[setF]
 have df:=r.df n hn
 have np:(fk S n).np=S.np:=rfl
 have su:(fk S n).succ=S.succ:=rfl
 have re:(fk S n).ready=S.ready:=rfl
 refine⟨keep _ _ r.hx (ne_of r.hx hD (by simp)),keep _ _ r.hd (ne_of r.hd hD (by simp)),⟨ep,?_⟩,λm hm=>?_,λm hm=>?_,λq h=>?_,λm hm k hk=>?_,λm hm k hk=>?_,λh m hm=>?_,?_,λm hm=>?_,?_,r.ox,r.od,r.oD,λm hm=>?_,r.oR,?_⟩
 ·rw[eD,hns,bQ]
  congr 3
  ·apply bo;intro m hm;rw[iam m hm]
  ·simp[ian]
 ·rw[hns]at hm
  rcases az.mp hm with h|h
  ·rw[iam m h,lam m h];exact keep _ _ (r.hi m h) (ne_of (r.hi m h) hD (by simp[vI]))
  ·simp at h;subst h;rw[ian,lan,np,df.1];exact ei
 ·rw[hns]at hm
  rcases az.mp hm with h|h
  ·rw[lam m h];exact keep _ _ (r.hl m h) (ne_of (r.hl m h) hD (by simp))
  ·simp at h;subst h;rw[lan,su,df.2];exact el
 ·exact keep _ _ (r.hr q h) (ne_of (r.hr q h) hD (by simp))
 ·rw[hns]at hm hk
  intro e
  rcases az.mp hm with h|h<;>rcases az.mp hk with h'|h'
  ·rw[iam m h,iam k h']at e;exact r.ii m h k h' e
  ·simp at h';subst h';rw[iam m h,ian]at e;exact absurd e (ne_none (r.hi m h) hi)
  ·simp at h;subst h;rw[iam k h',ian]at e;exact absurd e.symm (ne_none (r.hi k h') hi)
  ·simp at h h';rw[h,h']
 ·rw[hns]at hm hk
  intro e
  rcases az.mp hm with h|h<;>rcases az.mp hk with h'|h'
  ·rw[lam m h,lam k h']at e;exact r.ll m h k h' e
  ·simp at h';subst h';rw[lam m h,lan]at e;exact absurd e (ne_none (r.hl m h) hl)
  ·simp at h;subst h;rw[lam k h',lan]at e;exact absurd e.symm (ne_none (r.hl k h') hl)
  ·simp at h h';rw[h,h']
 ·rw[hns]at hm
  rcases az.mp hm with h'|h'
  ·rw[lam m h'];exact r.lR h m h'
  ·simp at h';subst h';rw[lan]
   cases q:S.ready with
   |none=>exact absurd q h
   |some z=>exact λe=>ne_none (r.hr z q) hl e.symm
 ·rw[hns]
  rw[bR]
  exact⟨r.nd,by simp,λa ha b hb=>by simp at hb;subst hb;exact ne a ha⟩
 ·rw[hns]at hm
  exact r.df m λh=>hm (ci _ h)
 ·intro a o e
  have h:=r.gr _ _ e
  refine keep _ _ h ?_
  rintro rfl
  rw[r.oD]at e;cases e
 ·rw[hns]at hm
  rcases az.mp hm with h|h
  ·rw[iam m h,lam m h];exact r.oi m h
  ·simp at h;subst h;rw[ian,lan];exact⟨r.gr.back hi,r.gr.back hl⟩
 ·rw[hns];simpa using hz
theorem eSet_new(ia:Int→Addr)(n:Int)(i:Addr)(nodes:List Int)(h:n∉nodes):je (nodes.map λm=>(m,V.ref (ia m))) n (.ref i)=(nodes.map λm=>(m,V.ref (ia m)))++[(n,.ref i)]:=by
 unfold je
 rw[if_neg]
 simp only[List.any_map,b3,not_exists,not_and,Ga,decide_eq_true_eq]
 intro m hm e;subst e;exact h hm
theorem qd{Q:V→Hp→Prop}{X:XA}(r:Rep Z hp x dd D ia la R S){n:Int}(hz:S.nodes.length+1≤1000)(q:∀hp' ia' la',Rep Z hp' x dd D ia' la' R (fk S n)→Q (.ref (ia' n)) hp'):dA [.ref x,.int n] Q X hp:=by
 refine⟨[(0,.ref x),(1,.int n)],rfl,?_⟩
 obtain⟨ep,hD⟩:=r.hD
 have a2:∀(Q:V→Hp→Prop),bn cT 2 (.ref x) Q hp=Q (.ref D) hp:=λQ=>r.at rfl rfl
 have hz':S.nodes.length≤lim:=lim2 _ (c7 hz)
 have dg:∀(Q:V→Hp→Prop)(X:XA),wi [.ref D,.int n] Q X hp=Q ((eAt (S.nodes.map λn=>(n,V.ref (ia n))) n).getD .none) hp:=by
  intro Q X
  apply propext;constructor
  ·rintro⟨a,es,ep',k,h1,h2,h3⟩
   simp only[jp,V.ref.injEq,V.int.injEq,and_true]at h1
   obtain⟨rfl,rfl⟩:=h1
   rw[hD]at h2;cases h2;exact h3
  ·intro h;exact⟨_,_,_,_,rfl,hD,h⟩
 have isd:n8 hp (.ref D):=⟨D,_,ep,rfl,hD⟩
 simp only[iJ,sZ,Bm,nS,jz,bV,wI,if_true,a2,cr,ek,if_neg (show¬(1:Nat)=0 by decide),dg,find_nodes]
 refine⟨isd,?_⟩
 by_cases c:n∈S.nodes
 ·simp only[if_pos c,Option.getD_some,Cs]
  simp
  refine q hp ia la ?_
  have:fk S n=S:=by simp[fk,c]
  rw[this];exact r
 ·simp only[if_neg c,Option.getD_none,on_nn]
  simp
  refine tP λi l hp' h1 h2 h3 h4 h5 h6=>?_
  have hx':hp' x=some (.inst cT dd):=by rw[h6 x (ne_none r.hx h1) (ne_none r.hx h2)];exact r.hx
  have hd':hp' dd=some (.ns [(2,.ref D),(5,zZ R S.ready),(11,.int S.pass),(12,.int S.fin)]):=by rw[h6 dd (ne_none r.hd h1) (ne_none r.hd h2)];exact r.hd
  have hD':hp' D=some (.dict (S.nodes.map λn=>(n,V.ref (ia n))) ep):=by rw[h6 D (ne_none hD h1) (ne_none hD h2)];exact hD
  rw[at_ref hx' hd' (v:=.ref D) rfl rfl]
  refine⟨D,n,rfl,rfl,?_⟩
  rw[hD']
  refine⟨by simpa using hz',λep'=>?_⟩
  rw[eSet_new _ _ _ _ c]
  have hDi:D≠i:=ne_none hD h1
  have hDl:D≠l:=ne_none hD h2
  have:=q _ _ _ (Rep.add (hp':=upd hp' D (.dict (S.nodes.map (λm=>(m,V.ref (ia m)))++[(n,V.ref i)]) ep')) (ep:=ep') r c hz h1 h2 h3 (by rw[upd_ne (aI hDi)];exact h4) (by rw[upd_ne (aI hDl)];exact h5) (by simp) λa n1 n2 n3=>by rw[upd_ne n3];exact h6 a n1 n2)
  simpa[setF]using this
end
noncomputable def addP(n:Int)(S:SS)(p:Int):SS:={fk S p with succ:=setF S.succ p (S.succ p++[n])}
noncomputable def addS(S:SS)(n:Int)(ps:List Int):SS:=ps.foldl (addP n) {fk S n with np:=setF S.np n (S.np n+ps.length)}
theorem oC(S:SS)(n:Int):n∈(fk S n).nodes:=by
 unfold fk;simp only[];split
 ·assumption
 ·simp
theorem rR(S:SS)(n:Int):(fk S n).nodes.length≤S.nodes.length+1:=by
 unfold fk;simp only[];split<;>simp
section
variable{Z hp:Hp}{x dd D R:Addr}{ia la:Int→Addr}{S:SS}
theorem Rep.inst(r:Rep Z hp x dd D ia la R S){j:Nat}(hj:j≠2∧j≠5∧j≠11∧j≠12):cw cT j hp (.ref x):=by
 refine⟨dd,_,r.hx,r.hd,?_⟩
 simp[aI hj.1,aI hj.2.1,aI hj.2.2.1,aI hj.2.2.2]
theorem Rep.slot(r:Rep Z hp x dd D ia la R S){n:Int}(hn:n∈S.nodes){k:Nat}{v:V}{Q:V→Hp→Prop}(h:([some (.int n),some (.int (S.np n)),some (.ref (la n))]:List (Option V))[k]?=some (some v))(nf:j4 v=true):gh cN k (.ref (ia n)) Q hp=Q v hp:=sl_ref (r.hi n hn) h nf
theorem yp{R':Fw→aZ→Hp→Prop}{X:XS}{loc:aZ}{n p:Int}(r:Rep Z hp x dd D ia la R S)(hz:S.nodes.length+1≤1000)(hs:(S.succ p).length≤100000)(e0:loc 0=some (.ref x))(e1:loc 1=some (.int n))(e8:loc 8=some (.int p))
 (q:∀loc' hp' ia' la',Rep Z hp' x dd D ia' la' R (addP n S p)→loc' 0=some (.ref x)→loc' 1=some (.int n)→R' .next loc' hp'):jE R' X loc hp:=by
 simp[jE,↓rd e0,↓rd e1,↓rd e8,r.inst, -cy]
 refine qd r hz λhp' ia' la' r'=>?_
 have hm:=oC S p
 rw[r'.slot hm (k:=2) (v:=.ref (la' p)) rfl rfl]
 refine⟨isLst_ref (r'.hl p hm),gF (r'.hl p hm) ?_ ?_⟩
 ·simp only[ak]
  have:(fk S p).succ=S.succ:=rfl
  rw[this];exact D8 (ae hs (by decide))
 ·have e:(fO V.int ((fk S p).succ p)++[V.int n])=fO V.int (S.succ p++[n]):=by simp[fk]
  rw[e]
  exact q _ _ ia' la' (r'.setSucc hm) (by simp[upd,e0]) (by simp[upd,e1])
theorem uK(n:Int)(S:SS)(p:Int):(addP n S p).nodes.length≤S.nodes.length+1∧∀m,((addP n S p).succ m).length≤(S.succ m).length+1:=by
 refine⟨rR S p,λm=>?_⟩
 simp only[addP,setF]
 split
 ·rename_i h;subst h;simp
 ·exact gb _
theorem add_loop{Q:Fw→aZ→Hp→Prop}{v:V}{hp0:Hp}{n:Int}(hv:∀h h',same v h h'):∀(ps:List Int)(S:SS)(hp:Hp)(ia la:Int→Addr)(loc:aZ),Rep Z hp x dd D ia la R S→S.nodes.length+ps.length≤999→(∀m,(S.succ m).length+ps.length≤10000)→loc 0=some (.ref x)→loc 1=some (.int n)→
 (∀loc' hp' ia' la',Rep Z hp' x dd D ia' la' R (ps.foldl (addP n) S)→Q .next loc' hp')→de v hp0 (aG 8) jE Q (ps.map .int) loc hp:=by
 intro xs_
 induction xs_ with
 |nil=>
  intro S hp ia la loc r _ _ e0 e1 q
  exact q loc hp ia la r
 |cons p ps ih=>
  intro S hp ia la loc r hz hs e0 e1 q
  refine gv ?_
  simp only[aE]at hz hs
  have:=uK n S p
  refine yp (n:=n) (p:=p) r (ae (dX (aR (aD _)) _) (ae hz (by decide))) (ae (ba _ _) (ae (hs p) (by decide))) (by simp[upd,e0]) (by simp[upd,e1]) (by simp) λloc' hp' ia' la' r' f0 f1=>⟨hv _ _,?_⟩
  exact ih _ hp' ia' la' loc' r' (ae (cB this.1 _) (ae (aT (bj _ 1 _)) hz)) (λm=>ae (cB (this.2 m) _) (ae (aT (bj _ 1 _)) (hs m))) f0 f1 q
theorem CB{Q:V→Hp→Prop}{X:XA}{n:Int}{ps:List Int}(r:kZ Z hp x S)(h0:S.ready=none)(hz:S.nodes.length+ps.length≤998)(hs:∀m,(S.succ m).length+ps.length≤10000)(q:∀hp',kZ Z hp' x (addS S n ps)→Q .none hp'):lV (.ref x:: .int n::ps.map .int) Q X hp:=by
 obtain⟨dd,D,ia,la,R,r⟩:=r
 have hpl:ps.length≤lim:=lim2 _ (ae (bZ _ _) (ae hz (by decide)))
 refine⟨[(0,.ref x),(1,.int n),(4,.tup (ps.map .int))],?_,?_⟩
 ·exact if_pos (by rw[ak];exact hpl)
 have a5:∀(Q:V→Hp→Prop),bn cT 5 (.ref x) Q hp=Q .none hp:=λQ=>r.at (by rw[h0];rfl) rfl
 simp[sd,↓a5,r.inst, -cy]
 refine qd r (aR (ae (ba _ _) (ae hz (by decide)))) λhp' ia' la' r'=>?_
 have hm:=oC S n
 rw[r'.slot hm (k:=1) (v:=.int (S.np n)) rfl rfl]
 refine⟨hpl,?_⟩
 rw[qB,setS_ref (r'.hi n hm)]
 have r2:=r'.setNp (k:=S.np n+ps.length) hm
 refine add_loop (n:=n) (by simp) ps _ _ ia' la' _ r2 ?_ (λm=>by have:=hs m;exact this) rfl rfl λloc' hp2 ia2 la2 r3=>?_
 ·exact ae (cB (rR S n) _) (ae (aT (bj _ 1 _)) (aR hz))
 ·exact q _ ⟨dd,D,ia2,la2,R,r3⟩
end
section
variable{Z hp:Hp}{x dd D R:Addr}{ia la:Int→Addr}{S:SS}
noncomputable def outS(S:SS)(r:List Int):SS:=r.foldl (λS n=>{S with np:=setF S.np n (-1)}) S
theorem oM:∀(r:List Int)(S:SS),(outS S r).nodes=S.nodes∧(outS S r).succ=S.succ∧(outS S r).ready=S.ready∧(outS S r).pass=S.pass∧(outS S r).fin=S.fin∧∀m,(outS S r).np m=if m∈r then -1 else S.np m:=by
 intro xs_
 induction xs_ with
 |nil=>
  intro S
  exact⟨rfl,rfl,rfl,rfl,rfl,λm=>by simp[outS]⟩
 |cons n r ih=>
  intro S
  obtain⟨h1,h2,h3,h4,h5,h6⟩:=ih {S with np:=setF S.np n (-1)}
  refine⟨h1,h2,h3,h4,h5,λm=>?_⟩
  have:(outS S (n::r)).np m=(outS {S with np:=setF S.np n (-1)} r).np m:=rfl
  rw[this,h6]
  simp only[setF,ah]
  by_cases c:m∈r<;>by_cases c2:m=n<;>simp[c,c2]
theorem Rep.item(r:Rep Z hp x dd D ia la R S){n:Int}(hn:n∈S.nodes){Q:V→Hp→Prop}:dJ (.ref D) (.int n) Q hp=Q (.ref (ia n)) hp:=by
 obtain⟨ep,hD⟩:=r.hD
 exact item_dict hD (by rw[find_nodes,if_pos hn])
theorem ready_body{R':Fw→aZ→Hp→Prop}{X:XS}{loc:aZ}{n:Int}(r:Rep Z hp x dd D ia la R S)(hn:n∈S.nodes)(e13:loc 13=some (.ref D))(e1:loc 1=some (.int n))
 (q:∀hp',Rep Z hp' x dd D ia la R {S with np:=setF S.np n (-1)}→R' .next loc hp'):eU R' X loc hp:=by
 simp[eU,↓rd e13,↓rd e1,↓r.item hn,↓setS_ref (r.hi n hn),kU]
 exact q _ (r.setNp hn)
theorem tC{Q:Fw→aZ→Hp→Prop}{v:V}{hp0:Hp}(hv:∀h h',same v h h'):∀(ns:List Int)(S:SS)(hp:Hp)(loc:aZ),Rep Z hp x dd D ia la R S→(∀n∈ns,n∈S.nodes)→loc 13=some (.ref D)→
 (∀loc' hp',Rep Z hp' x dd D ia la R (outS S ns)→(∀i,i≠1→loc' i=loc i)→Q .next loc' hp')→de v hp0 (aG 1) eU Q (ns.map .int) loc hp:=by
 intro xs_
 induction xs_ with
 |nil=>
  intro S hp loc r _ e q
  exact q loc hp r λz z=>rfl
 |cons n ns ih=>
  intro S hp loc r h e q
  refine gv ?_
  refine ready_body (n:=n) r (h n ai) (by simp[upd,e]) (by simp) λhp' r'=>⟨hv _ _,?_⟩
  exact ih _ hp' _ r' (λm hm=>h m (am _ hm)) (by simp[upd,e]) λloc' hp2 r2 h2=>q loc' hp2 r2 λi hi=>by rw[h2 i hi,upd_ne hi]
noncomputable def mv(S:SS)(r:List Int):SS:={outS S r with ready:=some [],pass:=S.pass+r.length}
theorem zP{Q:V→Hp→Prop}{X:XA}{r:List Int}(o:kZ Z hp x S)(hr:S.ready=some r)(hn:∀n∈r,n∈S.nodes)(hl:r.length≤1000)(q:∀hp',kZ Z hp' x (mv S r)→Q (.tup (r.map .int)) hp'):fZ [.ref x] Q X hp:=by
 obtain⟨dd,D,ia,la,R,o⟩:=o
 refine⟨[(0,.ref x)],rfl,?_⟩
 have hrv:zZ R S.ready= .ref R:=by rw[hr];rfl
 have a5:∀(Q:V→Hp→Prop),bn cT 5 (.ref x) Q hp=Q (.ref R) hp:=λQ=>o.at (by rw[hrv];rfl) rfl
 have a2:∀(Q:V→Hp→Prop),bn cT 2 (.ref x) Q hp=Q (.ref D) hp:=λQ=>o.at rfl rfl
 have hlim:(r.map V.int).length≤lim:=by rw[ak];exact lim2 _ hl
 simp[ko,↓a5,↓a2,↓rH (o.hr r hr) hlim, -cy]
 refine tC (by simp) r S hp _ o hn rfl λloc' hp' o' hloc=>?_
 obtain⟨h1,h2,h3,h4,h5,h6⟩:=oM r S
 have e0:loc' 0=some (.ref x):=by rw[hloc 0 (by decide)];simp[upd,locOf_cons]
 have e3:loc' 3=some (.tup (r.map .int)):=by rw[hloc 3 (by decide)];simp[upd]
 have hr':(outS S r).ready=some r:=by rw[h3];exact hr
 have b5:∀(Q:V→Hp→Prop),bn cT 5 (.ref x) Q hp'=Q (.ref R) hp':=λQ=>o'.at (by rw[hr'];rfl) rfl
 simp only[rd e0,b5]
 refine⟨isLst_ref (o'.hr r hr'),R,_,rfl,o'.hr r hr',hlim,?_⟩
 have o2:=o'.setReady (q:=[]) hr'
 rw[gj]at o2
 have b11:∀(Q:V→Hp→Prop),bn cT 11 (.ref x) Q (upd hp' R (.lst []))=Q (.int S.pass) (upd hp' R (.lst [])):=λQ=>o2.at (by simp only[zZ];rw[h4];rfl) rfl
 simp only[b11,rd e3]
 have hrl:r.length≤lim:=lim2 _ hl
 simp[hrl]
 rw[setA_ref o2.hx o2.hd (by simp)]
 have o3:=o2.setD (p:=S.pass+r.length) (f:=(outS S r).fin)
 refine q _ ⟨dd,D,ia,la,R,?_⟩
 simpa[ju,mv]using o3
theorem oG{Q:V→Hp→Prop}{X:XA}{r:List Int}(o:kZ Z hp x S)(hr:S.ready=some r)(hl:r.length≤1000)(q:Q (.bool (decide (S.fin<S.pass)|| !r.isEmpty)) hp):dS [.ref x] Q X hp:=by
 obtain⟨dd,D,ia,la,R,o⟩:=o
 refine⟨[(0,.ref x)],rfl,?_⟩
 have a5:∀(Q:V→Hp→Prop),bn cT 5 (.ref x) Q hp=Q (.ref R) hp:=λQ=>o.at (by rw[hr];rfl) rfl
 have a11:∀(Q:V→Hp→Prop),bn cT 11 (.ref x) Q hp=Q (.int S.pass) hp:=λQ=>o.at rfl rfl
 have a12:∀(Q:V→Hp→Prop),bn cT 12 (.ref x) Q hp=Q (.int S.fin) hp:=λQ=>o.at rfl rfl
 have hlim:r.length≤lim:=lim2 _ hl
 simp[kn,↓a5,↓a11,↓a12, -cy]
 split
 ·rename_i c;simpa[c]using q
 ·rename_i c
  refine⟨_,r.map .int,rfl,listOf_ref (o.hr r hr),by simpa using hlim,?_⟩
  have:(r.map V.int).isEmpty=r.isEmpty:=by cases r<;>rfl
  rw[this];simpa[c]using q
noncomputable def decS(S:SS)(s:Int):SS:={S with np:=setF S.np s (S.np s - 1),ready:=if S.np s - 1=0 then S.ready.map (·++[s])else S.ready}
noncomputable def lF(S:SS)(n:Int):SS:={(S.succ n).foldl decS {S with np:=setF S.np n (-2)}with fin:=S.fin+1}
theorem dec_body{R':Fw→aZ→Hp→Prop}{X:XS}{loc:aZ}{s:Int}{r:List Int}(o:Rep Z hp x dd D ia la R S)(hn:s∈S.nodes)(hr:S.ready=some r)(hl:r.length≤10000)(e0:loc 0=some (.ref x))(e13:loc 13=some (.ref D))(e23:loc 23=some (.int s))
 (q:∀loc' hp',Rep Z hp' x dd D ia la R (decS S s)→(∀i,i≠24→loc' i=loc i)→R' .next loc' hp'):iW R' X loc hp:=by
 have o2:=o.setNp (k:=S.np s - 1) hn
 have sl:∀(Q:V→Hp→Prop),gh cN 1 (.ref (ia s)) Q (upd hp (ia s) (.sl cN [some (.int s),some (.int (S.np s - 1)),some (.ref (la s))]))=Q (.int (S.np s - 1)) (upd hp (ia s) (vI s (S.np s - 1) (la s))):=λQ=>sl_ref (upd_same ..) rfl rfl
 have a5:∀(Q:V→Hp→Prop),bn cT 5 (.ref x) Q (upd hp (ia s) (vI s (S.np s - 1) (la s)))=Q (.ref R) (upd hp (ia s) (vI s (S.np s - 1) (la s))):=λQ=>o2.at (by simp only[hr,zZ];rfl) rfl
 simp[iW,↓rd e13,↓rd e23,↓rd e0,↓o.item hn,↓o.slot hn (k:=1) (v:=.int (S.np s)) rfl rfl,↓setS_ref (o.hi s hn),kU,↓sl,↓a5, -cy]
 split
 ·rename_i c
  refine⟨isLst_ref (o2.hr r hr),gF (o2.hr r hr) (by simp;exact lim4 (cG hl)) ?_⟩
  rw[show fO V.int r++[V.int s]=(r++[s]).map .int by simp]
  have o3:=o2.setReady (q:=r++[s]) hr
  refine q _ _ ?_ λi hi=>upd_ne hi
  simpa[decS,c,hr]using o3
 ·rename_i c
  refine q _ _ ?_ λi hi=>upd_ne hi
  simpa[decS,c]using o2
theorem yf{Q:Fw→aZ→Hp→Prop}{hp0:Hp}{n:Int}:∀(ss:List Int)(S:SS)(hp:Hp)(loc:aZ)(r:List Int),Rep Z hp x dd D ia la R S→n∈S.nodes→hp0 (la n)=some (.lst ((S.succ n).map .int))→(∀s∈ss,s∈S.nodes)→S.ready=some r→r.length+ss.length≤10000→loc 0=some (.ref x)→loc 13=some (.ref D)→
 (∀loc' hp',Rep Z hp' x dd D ia la R (ss.foldl decS S)→(∀i,i≠23→i≠24→loc' i=loc i)→Q .next loc' hp')→de (.ref (la n)) hp0 (aG 23) iW Q (ss.map .int) loc hp:=by
 intro xs_
 induction xs_ with
 |nil=>
  intro S hp loc r o _ _ _ _ _ _ _ q
  exact q loc hp o λz z z=>rfl
 |cons s ss ih=>
  intro S hp loc r o hn h0 h hr hl e0 e13 q
  refine gv ?_
  simp only[aE]at hl
  refine dec_body (s:=s) o (h s ai) hr (ae (ba _ _) hl) (by simp[upd,e0]) (by simp[upd,e13]) (by simp) λloc' hp' o' hloc=>⟨?_,?_⟩
  ·show hp' (la n)=hp0 (la n)
   rw[h0,o'.hl n hn];rfl
  ·have hr':∃r',(decS S s).ready=some r'∧r'.length≤r.length+1:=by
    simp only[decS,hr]
    split
    ·exact⟨_,rfl,by simp⟩
    ·exact⟨_,rfl,gb _⟩
   obtain⟨r',hr',hl'⟩:=hr'
   refine ih _ hp' loc' r' o' hn h0 (λm hm=>h m (am _ hm)) hr' (ae (cB hl' _) (ae (aT (bj _ 1 _)) hl)) ?_ ?_ λloc2 hp2 o2 h2=>q loc2 hp2 o2 λi h1 h3=>?_
   ·rw[hloc 0 (by decide)];simp[upd,e0]
   ·rw[hloc 13 (by decide)];simp[upd,e13]
   ·rw[h2 i h1 h3,hloc i h3,upd_ne h1]
theorem kY:∀(ss:List Int)(S:SS),(ss.foldl decS S).nodes=S.nodes∧(ss.foldl decS S).succ=S.succ∧(ss.foldl decS S).pass=S.pass∧(ss.foldl decS S).fin=S.fin:=by
 intro xs_
 induction xs_ with
 |nil=>
  intro S
  exact⟨rfl,rfl,rfl,rfl⟩
 |cons s ss ih=>
  intro S
  exact ih (decS S s)
theorem done_body{R':Fw→aZ→Hp→Prop}{X:XS}{loc:aZ}{n:Int}{r:List Int}(o:Rep Z hp x dd D ia la R S)(hn:n∈S.nodes)(hm:S.np n= -1)(hs:∀s∈S.succ n,s∈S.nodes)(hr:S.ready=some r)(hl:r.length+(S.succ n).length≤10000)(e0:loc 0=some (.ref x))(e13:loc 13=some (.ref D))(e1:loc 1=some (.int n))
 (q:∀loc' hp',Rep Z hp' x dd D ia la R (lF S n)→(loc' 0=loc 0∧loc' 13=loc 13)→R' .next loc' hp'):iV R' X loc hp:=by
 obtain⟨ep,hD⟩:=o.hD
 have dg:∀(Q:V→Hp→Prop)(X:XA),wi [.ref D,.int n] Q X hp=Q (.ref (ia n)) hp:=by
  intro Q X
  apply propext;constructor
  ·rintro⟨a,es,ep',k,h1,h2,h3⟩
   simp only[jp,V.ref.injEq,V.int.injEq,and_true]at h1
   obtain⟨rfl,rfl⟩:=h1
   rw[hD]at h2;cases h2;rw[find_nodes,if_pos hn]at h3;exact h3
  ·intro h;exact⟨_,_,_,_,rfl,hD,by rw[find_nodes,if_pos hn];exact h⟩
 have isd:n8 hp (.ref D):=⟨D,_,ep,rfl,hD⟩
 have o2:=o.setNp (k:= -2) hn
 have sl2:∀(Q:V→Hp→Prop),gh cN 2 (.ref (ia n)) Q (upd hp (ia n) (.sl cN [some (.int n),some (.int (-2)),some (.ref (la n))]))=Q (.ref (la n)) (upd hp (ia n) (vI n (-2) (la n))):=λQ=>sl_ref (upd_same ..) rfl rfl
 simp[iV,↓rd e13,↓rd e1,↓rd e0,↓dg,isd,↓o.slot hn (k:=1) (v:=.int (S.np n)) rfl rfl,hm,↓setS_ref (o.hi n hn),kU,↓sl2, -cy]
 refine⟨(S.succ n).map .int,m7 (o2.hl n hn),?_⟩
 refine yf (S.succ n) _ _ _ r o2 hn (o2.hl n hn) hs hr hl (by simp[upd,e0]) (by simp[upd,e13]) λloc' hp' o' hloc=>?_
 have f0:loc' 0=some (.ref x):=by rw[hloc 0 (by decide) (by decide)];simp[upd,e0]
 have f13:loc' 13=some (.ref D):=by rw[hloc 13 (by decide) (by decide)];simp[upd,e13]
 have hf:=kY (S.succ n) {S with np:=setF S.np n (-2)}
 have b12:∀(Q:V→Hp→Prop),bn cT 12 (.ref x) Q hp'=Q (.int S.fin) hp':=λQ=>o'.at (by rw[hf.2.2.2];rfl) rfl
 simp only[rd f0,b12,qB]
 rw[setA_ref o'.hx o'.hd (by simp)]
 have o3:=o'.setD (p:=((S.succ n).foldl decS {S with np:=setF S.np n (-2)}).pass) (f:=S.fin+1)
 refine q _ _ ?_ ⟨by rw[f0,e0],by rw[f13,e13]⟩
 simpa[ju,lF]using o3
end
section
variable{Z hp:Hp}{x dd D R:Addr}{ia la:Int→Addr}{S:SS}
noncomputable def oq:SS→List Int→Prop
 |_,[]=>True
 |S,n::ns=>n∈S.nodes∧S.np n= -1∧(∀s∈S.succ n,s∈S.nodes)∧(∃r,S.ready=some r∧r.length+(S.succ n).length≤10000)∧oq (lF S n) ns
theorem vF{Q:Fw→aZ→Hp→Prop}{v:V}{hp0:Hp}(hv:∀h h',same v h h'):∀(ns:List Int)(S:SS)(hp:Hp)(loc:aZ),Rep Z hp x dd D ia la R S→oq S ns→loc 0=some (.ref x)→loc 13=some (.ref D)→
 (∀loc' hp',Rep Z hp' x dd D ia la R (ns.foldl lF S)→Q .next loc' hp')→de v hp0 (aG 1) iV Q (ns.map .int) loc hp:=by
 intro xs_
 induction xs_ with
 |nil=>
  intro S hp loc o _ _ _ q
  exact q loc hp o
 |cons n ns ih=>
  rintro S hp loc o ⟨h1,h2,h3,⟨r,h4,h5⟩,h6⟩ e0 e13 q
  refine gv ?_
  refine done_body (n:=n) (r:=r) o h1 h2 h3 h4 h5 (by simp[upd,e0]) (by simp[upd,e13]) (by simp) λloc' hp' o' hl=>⟨hv _ _,?_⟩
  exact ih _ hp' loc' o' h6 (by rw[hl.1];simp[upd,e0]) (by rw[hl.2];simp[upd,e13]) q
theorem Bv{Q:V→Hp→Prop}{X:XA}{ns:List Int}(o:kZ Z hp x S)(hk:oq S ns)(hl:ns.length≤1000)(hr:S.ready≠none)(q:∀hp',kZ Z hp' x (ns.foldl lF S)→Q .none hp'):kH (.ref x::ns.map .int) Q X hp:=by
 obtain⟨dd,D,ia,la,R,o⟩:=o
 refine⟨[(0,.ref x),(21,.tup (ns.map .int))],?_,?_⟩
 ·exact if_pos (by rw[ak];exact lim2 _ hl)
 obtain⟨r,hr⟩:∃r,S.ready=some r:=by
  cases h:S.ready with
  |none=>exact absurd h hr
  |some r=>exact⟨r,rfl⟩
 have a5:∀(Q:V→Hp→Prop),bn cT 5 (.ref x) Q hp=Q (.ref R) hp:=λQ=>o.at (by rw[hr];rfl) rfl
 have a2:∀(Q:V→Hp→Prop),bn cT 2 (.ref x) Q hp=Q (.ref D) hp:=λQ=>o.at rfl rfl
 simp[qk,↓a5,↓a2, -cy]
 exact vF (by simp) ns S hp _ o hk rfl rfl λloc' hp' o'=>q hp' ⟨dd,D,ia,la,R,o'⟩
noncomputable abbrev E6:=List (Int×List Int)
noncomputable def Ch(succ:Int→List Int)(B:Int→Prop)(root:Int→Prop):Int→E6→Prop
 |v,[]=>root v
 |v,(u,rem)::st=>(∃c,succ u=c++v::rem∧∀y∈c,¬B y)∧Ch succ B root u st
end
noncomputable abbrev kR:=Int×List Int×Addr
noncomputable def lC:List kR→List (Int×V)
 | []=>[]
 |e::st=>lC st++[(e.1,V.int st.length)]
structure FS(hpS hp:Hp)(a14 a15 a16 a17:Addr)(la:Int→Addr)(S:SS)(seen:List Int)(st:List kR):Prop where
 gr:Grow hpS hp
 n14:hpS a14=ac
 n15:hpS a15=ac
 n16:hpS a16=ac
 n17:hpS a17=ac
 h14:hp a14=some (.lst (st.reverse.map λe=>V.int e.1))
 h15:hp a15=some (.lst (st.reverse.map λe=>V.nxt e.2.2))
 h16:hp a16=some (.set seen)
 h17:∃ep,hp a17=some (.dict (lC st) ep)
 ne:a14≠a15
 its:∀e∈st,e.1∈S.nodes∧hpS e.2.2=ac∧∃k,hp e.2.2=some (.it (la e.1) k)∧(S.succ e.1).drop k=e.2.1
 dis:(st.map (·.2.2)).Nodup
 ndn:(st.map (·.1)).Nodup
 sin:∀e∈st,e.1∈seen
 snd:seen.Nodup
 sns:∀s∈seen,s∈S.nodes
theorem ent_any(v:Int):∀st:List kR,(lC st).any (λe=>decide (e.1=v))=decide (v∈st.map (·.1)):=by
 intro xs_
 induction xs_ with
 |nil=>
  exact rfl
 |cons e st ih=>
  rw[lC,List.any_append,ih]
  simp only[jo,List.any_nil,Bool.or_false,ao,ah,Bool.decide_or]
  have hc:decide (e.1=v)=decide (v=e.1):=decide_eq_decide.mpr ⟨Eq.symm,Eq.symm⟩
  rw[hc,BS]
theorem uo:∀st:List kR,(lC st).length=st.length:=by
 intro xs_
 induction xs_ with
 |nil=>
  exact rfl
 |cons e st ih=>
  simp[lC,ih]
theorem zD{v:Int}{u:V}{st:List kR}(h:v∉st.map (·.1)):je (lC st) v u=lC st++[(v,u)]:=by
 unfold je
 rw[ent_any,if_neg (by simpa using h)]
theorem ent_keys:∀(st:List kR)(p:Int×V),p∈lC st→p.1∈st.map (·.1)
 |e::st,p,h=>by
  rw[lC]at h
  rcases az.mp h with h|h
  ·exact am _ (ent_keys st p h)
  ·simp at h;subst h;simp
theorem ent_del{e:kR}{st:List kR}(h:e.1∉st.map (·.1)):eDel (lC (e::st)) e.1=lC st:=by
 unfold eDel
 rw[lC,wa]
 have:(lC st).filter (λp=>decide (p.1≠e.1))=lC st:=by
  apply iH.mpr
  intro p hp
  have:=ent_keys st p hp
  simp only[decide_eq_true_eq]
  intro z;rw[z]at this;exact h this
 rw[this];simp
noncomputable def posI(v:Int)(st:List kR):Nat:=(st.map (·.1)).reverse.idxOf v
theorem wV(v:Int):∀st:List kR,(st.map (·.1)).Nodup→v∈st.map (·.1)→eAt (lC st) v=some (.int (posI v st:Nat)):=by
 intro xs_
 induction xs_ with
 |nil=>
  intros;simp_all
 |cons e st IH=>
  intro hn hv
  rw[ao,aC]at hn
  unfold eAt
  rw[lC,List.find?_append]
  by_cases c:v∈st.map (·.1)
  ·have ih:=IH hn.2 c
   unfold eAt at ih
   cases q:(lC st).find? λp=>decide (p.1=v)with
   |none=>rw[q]at ih;cases ih
   |some p=>
    rw[q]at ih
    simp only[bW,cO]at ih
    simp only[Option.some_or,bW,ih]
    congr 3
    unfold posI
    rw[ao,nc,yt,if_pos (by simpa using c)]
  ·have hve:v=e.1:=by simpa[c]using hv
   subst hve
   have:(lC st).find? (λp=>decide (p.1=e.1))=none:=by
    rw[List.find?_eq_none]
    intro p hp z
    simp only[decide_eq_true_eq]at z
    have:=ent_keys st p hp
    rw[z]at this;exact c this
   rw[this]
   simp only[Option.none_or,dO,decide_true,bW]
   congr 3
   unfold posI
   rw[ao,nc,yt,if_neg (by simpa using c)]
   simp
section
variable{hpS hp:Hp}{a14 a15 a16 a17:Addr}{la:Int→Addr}{S:SS}{seen:List Int}{st:List kR}
theorem FS.n_it(f:FS hpS hp a14 a15 a16 a17 la S seen st){e:kR}(he:e∈st):e.2.2≠a14∧e.2.2≠a15∧e.2.2≠a16∧e.2.2≠a17:=by
 refine(f.its e he).elim λz r2_=>r2_.elim λz r4_=>r4_.elim λk r5_=>r5_.elim λh z=>?_
 refine f.h17.elim λep h17=>?_
 exact⟨ne_of h f.h14 (by simp),ne_of h f.h15 (by simp),ne_of h f.h16 (by simp),ne_of h h17 (by simp)⟩
theorem FS.n16x(f:FS hpS hp a14 a15 a16 a17 la S seen st):a16≠a14∧a16≠a15∧a16≠a17∧a17≠a14∧a17≠a15:=by
 refine f.h17.elim λep h17=>?_
 exact⟨ne_of f.h16 f.h14 (by simp),ne_of f.h16 f.h15 (by simp),ne_of f.h16 h17 (by simp),ne_of h17 f.h14 (by simp),ne_of h17 f.h15 (by simp)⟩
theorem FS.push(f:FS hpS hp a14 a15 a16 a17 la S seen st){v:Int}{I:Addr}{hp':Hp}{ep:Nat}(hv:v∉seen)(hn:v∈S.nodes)(hI:hp I=ac)
 (e14:hp' a14=some (.lst ((st.reverse.map λe=>V.int e.1)++[.int v])))(e15:hp' a15=some (.lst ((st.reverse.map λe=>V.nxt e.2.2)++[.nxt I])))(e16:hp' a16=some (.set (v::seen)))(e17:hp' a17=some (.dict (lC st++[(v,V.int st.length)]) ep))
 (eI:hp' I=some (.it (la v) 0))(eo:∀a,a≠a14→a≠a15→a≠a16→a≠a17→a≠I→hp' a=hp a):FS hpS hp' a14 a15 a16 a17 la S (v::seen) ((v,S.succ v,I)::st):=by
 refine⟨?_,f.n14,f.n15,f.n16,f.n17,by simpa using e14,by simpa using e15,e16,⟨ep,by simpa[lC]using e17⟩,f.ne,λe he=>?_,?_,?_,λe he=>?_,?_,λs hs=>?_⟩
 ·intro a o e
  rw[eo a (ne_none e f.n14) (ne_none e f.n15) (ne_none e f.n16) (ne_none e f.n17) (ne_none (f.gr _ _ e) hI)]
  exact f.gr _ _ e
 ·rcases ah.mp he with rfl|he
  ·exact⟨hn,f.gr.back hI,0,eI,by simp⟩
  ·refine(f.its e he).elim λh1 r1_=>r1_.elim λh2 r2_=>r2_.elim λk r3_=>r3_.elim λh3 h4=>?_
   refine(f.n_it he).elim λm1 r1_=>r1_.elim λm2 r2_=>r2_.elim λm3 m4=>?_
   exact⟨h1,h2,k,by rw[eo _ m1 m2 m3 m4 (ne_none h3 hI)];exact h3,h4⟩
 ·rw[ao,aC]
  refine⟨λh=>?_,f.dis⟩
  refine(an.mp h).elim λe r1_=>r1_.elim λhe h=>?_
  refine(f.its e he).elim λz r2_=>r2_.elim λz r4_=>r4_.elim λk r5_=>r5_.elim λh3 z=>?_
  exact ne_none h3 hI h
 ·rw[ao,aC]
  refine⟨λh=>?_,f.ndn⟩
  refine(an.mp h).elim λe r1_=>r1_.elim λhe h=>?_
  have:=f.sin e he
  rw[h]at this;exact hv this
 ·rcases ah.mp he with rfl|he
  ·exact ai
  ·exact am _ (f.sin e he)
 ·rw[aC];exact⟨hv,f.snd⟩
 ·rcases ah.mp hs with rfl|hs
  ·exact hn
  ·exact f.sns s hs
theorem FS.next{u s:Int}{rem:List Int}{I:Addr}(f:FS hpS hp a14 a15 a16 a17 la S seen ((u,s::rem,I)::st)){k:Nat}(hk:hp I=some (.it (la u) k))(hd:(S.succ u).drop k=s::rem):FS hpS (upd hp I (.it (la u) (k+1))) a14 a15 a16 a17 la S seen ((u,rem,I)::st):=by
 refine(f.n_it (ai)).elim λm1 r1_=>r1_.elim λm2 r2_=>r2_.elim λm3 m4=>?_
 refine f.h17.elim λep h17=>?_
 have hI:=(f.its _ ai).2.1
 refine⟨f.gr.upd hI,f.n14,f.n15,f.n16,f.n17,by rw[upd_ne (aI m1)];simpa using f.h14,by rw[upd_ne (aI m2)];simpa using f.h15,by rw[upd_ne (aI m3)];exact f.h16,⟨ep,by rw[upd_ne (aI m4)];simpa[lC]using h17⟩,f.ne,λe he=>?_,f.dis,f.ndn,λe he=>?_,f.snd,f.sns⟩
 ·rcases ah.mp he with rfl|he
  ·refine⟨(f.its _ ai).1,hI,k+1,by simp,?_⟩
   have:(S.succ u).drop (k+1)=((S.succ u).drop k).drop 1:=by rw[List.drop_drop]
   rw[this,hd];rfl
  ·refine(f.its e (am _ he)).elim λh1 r1_=>r1_.elim λh2 r2_=>r2_.elim λk' r3_=>r3_.elim λh3 h4=>?_
   refine⟨h1,h2,k',?_,h4⟩
   rw[upd_ne];exact h3
   intro z
   have:=f.dis
   rw[ao,aC]at this
   exact this.1 (an.mpr ⟨e,he,z⟩)
 ·rcases ah.mp he with rfl|he
  ·exact f.sin (u,s::rem,I) ai
  ·exact f.sin e (am _ he)
theorem FS.pop{u:Int}{rem:List Int}{I:Addr}(f:FS hpS hp a14 a15 a16 a17 la S seen ((u,rem,I)::st)){hp':Hp}{ep:Nat}
 (e14:hp' a14=some (.lst (st.reverse.map λe=>V.int e.1)))(e15:hp' a15=some (.lst (st.reverse.map λe=>V.nxt e.2.2)))(e17:hp' a17=some (.dict (lC st) ep))(eo:∀a,a≠a14→a≠a15→a≠a17→a≠I→hp' a=hp a):FS hpS hp' a14 a15 a16 a17 la S seen st:=by
 refine(f.n_it (ai)).elim λm1 r1_=>r1_.elim λm2 r2_=>r2_.elim λm3 m4=>?_
 have hI:=(f.its _ ai).2.1
 refine f.n16x.elim λp1 r1_=>r1_.elim λp2 r2_=>r2_.elim λp3 r3_=>r3_.elim λp4 p5=>?_
 have dis:=f.dis
 have ndn:=f.ndn
 rw[ao,aC]at dis ndn
 refine⟨?_,f.n14,f.n15,f.n16,f.n17,e14,e15,by rw[eo a16 p1 p2 p3 (aI m3)];exact f.h16,⟨ep,e17⟩,f.ne,λe he=>?_,dis.2,ndn.2,λe he=>f.sin e (am _ he),f.snd,f.sns⟩
 ·intro a o e
  rw[eo a (ne_none e f.n14) (ne_none e f.n15) (ne_none e f.n17) (ne_none e hI)]
  exact f.gr _ _ e
 ·refine(f.its e (am _ he)).elim λh1 r1_=>r1_.elim λh2 r2_=>r2_.elim λk' r3_=>r3_.elim λh3 h4=>?_
  refine(f.n_it (am _ he)).elim λr1 r1_=>r1_.elim λr2 r2_=>r2_.elim λr3 r4=>?_
  refine⟨h1,h2,k',?_,h4⟩
  rw[eo _ r1 r2 r4];exact h3
  intro z
  exact dis.1 (an.mpr ⟨e,he,z⟩)
end
theorem iB{α:Type}[DecidableEq α]:∀(xs ys:List α),xs.Nodup→(∀x∈xs,x∈ys)→xs.length≤ys.length:=by
 intro xs_
 induction xs_ with
 |nil=>
  intro ys _ _
  simp
 |cons x xs ih=>
  intro ys hn h
  rw[aC]at hn
  have hx:=h x ai
  have:=ih (ys.erase x) hn.2 λy hy=>by
   have:=h y (am _ hy)
   rw[List.mem_erase_of_ne (by rintro rfl;exact hn.1 hy)];exact this
  rw[rg hx]at this
  exact ae (aR this) (aT (yq (sy hx)))
theorem itemAt_last(xs:List V)(y:V):d0 (xs++[y]) (-1)=some y:=by
 unfold d0
 have e:(-1+((xs++[y]).length:Int))=(xs.length:Int):=by rw[aw,kg];exact mV (xs.length:Int) 1
 rw[if_neg (by decide),if_pos (Int.neg_le_neg (bI.mpr (by rw[aw];exact bZ 1 _)): -((xs++[y]).length:Int)≤ -1),e,a9];simp
section
variable{Z hpS hp:Hp}{x dd D R a14 a15 a16 a17:Addr}{ia la:Int→Addr}{S:SS}{seen:List Int}{st:List kR}
theorem FS.len(f:FS hpS hp a14 a15 a16 a17 la S seen st)(hz:S.nodes.length≤1000):st.length≤1000∧seen.length≤1000:=by
 have h1:=iB (st.map (·.1)) S.nodes f.ndn (λv hv=>by
  obtain⟨e,he,rfl⟩:=an.mp hv
  exact f.sns _ (f.sin e he))
 have h2:=iB seen S.nodes f.snd f.sns
 rw[ak]at h1
 exact⟨ae h1 hz,ae h2 hz⟩
structure LC(loc:aZ)(D a14 a15 a16 a17:Addr):Prop where
 l13:loc 13=some (.ref D)
 l14:loc 14=some (.ref a14)
 l15:loc 15=some (.ref a15)
 l16:loc 16=some (.ref a16)
 l17:loc 17=some (.ref a17)
theorem LC.upd{loc:aZ}{v:V}(l:LC loc D a14 a15 a16 a17):LC (Mine.upd loc 1 v) D a14 a15 a16 a17:=
 ⟨by rw[upd_ne (by decide)];exact l.l13,by rw[upd_ne (by decide)];exact l.l14,by rw[upd_ne (by decide)];exact l.l15,by rw[upd_ne (by decide)];exact l.l16,by rw[upd_ne (by decide)];exact l.l17⟩
theorem x7{R':Fw→aZ→Hp→Prop}{X:XS}{loc:aZ}{u:Int}{rem:List Int}{I:Addr}(r:Rep Z hpS x dd D ia la R S)(f:FS hpS hp a14 a15 a16 a17 la S seen ((u,rem,I)::st))(l:LC loc D a14 a15 a16 a17)
 (q1:∀s rem' hp',rem=s::rem'→FS hpS hp' a14 a15 a16 a17 la S seen ((u,rem',I)::st)→R' .brk (upd loc 1 (.int s)) hp')
 (q2:∀hp',rem=[]→FS hpS hp' a14 a15 a16 a17 la S seen st→R' .next loc hp'):dz R' X loc hp:=by
 obtain⟨hl1,hl2⟩:=f.len r.sz
 simp only[aE]at hl1
 obtain⟨hu,hIS,k,hk,hd⟩:=f.its _ ai
 simp only[]at hk hd hu hIS
 have h15:=f.h15
 have h14:=f.h14
 simp only[nc,bQ,ao,gj]at h15 h14
 obtain⟨ep,h17⟩:=f.h17
 obtain⟨m1,m2,m3,m4⟩:=f.n_it (ai)
 obtain⟨p1,p2,p3,p4,p5⟩:=f.n16x
 have hlim:lim=1000000:=rfl
 have hsl:=f.gr _ _ (r.hl u hu)
 have hle:((st.reverse.map λe=>V.nxt e.2.2)++[V.nxt I]).length≤lim:=by simp;exact lim2 _ hl1
 simp[dz,↓rd l.l15,↓item_list h15 hle (itemAt_last _ _), -cy]
 refine⟨_,_,hk,_,hsl,?_⟩
 rw[b9]
 cases rem with
 |cons s rem'=>
  have:(S.succ u)[k]?=some s:=by
   have:=congrArg (λz:List Int=>z[0]?) hd
   simpa using this
  rw[this]
  simp only[bW]
  exact q1 s rem' _ rfl (f.next hk hd)
 |nil=>
  have:(S.succ u)[k]?=none:=by
   have:=congrArg (λz:List Int=>z[0]?) hd
   simpa using this
  rw[this]
  simp only[Option.map_none]
  have g14:(del hp I) a14=some (.lst ((st.reverse.map λe=>V.int e.1)++[.int u])):=by rw[del_ne (aI m1)];exact h14
  have g15:(del hp I) a15=some (.lst ((st.reverse.map λe=>V.nxt e.2.2)++[.nxt I])):=by rw[del_ne (aI m2)];exact h15
  have g17:(del hp I) a17=some (.dict (lC ((u,[],I)::st)) ep):=by rw[del_ne (aI m4)];exact h17
  simp only[rd l.l17,rd l.l14,rd l.l15]
  have hun:u∉st.map (·.1):=by have:=f.ndn;rw[ao,aC]at this;exact this.1
  refine⟨isLst_ref g14,a14,_,V.int u,rfl,g14,by simp;exact lim2 _ hl1,by simp,?_⟩
  simp only[uQ]
  refine⟨a17,u,_,ep,rfl,rfl,by rw[upd_ne p4];exact g17,by rw[uo];first|exact hl1|exact lim2 _ hl1|exact ae hl1 (of_decide_eq_true rfl),?_,λep'=>?_⟩
  ·rw[wV u _ f.ndn (by simp)];rfl
  ·have f15:(upd (upd (del hp I) a14 (.lst (st.reverse.map λe=>V.int e.1))) a17 (.dict (eDel (lC ((u,[],I)::st)) u) ep')) a15=some (.lst ((st.reverse.map λe=>V.nxt e.2.2)++[.nxt I])):=by
    rw[upd_ne (aI p5),upd_ne (aI f.ne)];exact g15
   refine⟨isLst_ref f15,a15,_,V.nxt I,rfl,f15,by simp;exact lim2 _ hl1,by simp,?_⟩
   simp only[uQ]
   refine q2 _ rfl (f.pop (ep:=ep') ?_ (by simp) ?_ λa n1 n2 n3 n4=>?_)
   ·rw[upd_ne f.ne,upd_ne (aI p4)];simp
   ·rw[upd_ne p5,upd_same];rw[show eDel (lC ((u,[],I)::st)) u=lC st from ent_del (e:=(u,[],I)) hun]
   ·rw[upd_ne n2,upd_ne n3,upd_ne n1,del_ne n4]
noncomputable def unw:List kR→Option (Int×List kR)
 | []=>none
 |(u,[],I)::st=>unw st
 |(u,s::rem,I)::st=>some (s,(u,rem,I)::st)
theorem x5{Q:Fw→aZ→Hp→Prop}(r:Rep Z hpS x dd D ia la R S):∀(st:List kR)(n:Nat)(hp:Hp)(loc:aZ),st.length<n→FS hpS hp a14 a15 a16 a17 la S seen st→LC loc D a14 a15 a16 a17→
 (∀s st' loc' hp',unw st=some (s,st')→FS hpS hp' a14 a15 a16 a17 la S seen st'→LC loc' D a14 a15 a16 a17→loc' 1=some (.int s)→Q .next loc' hp')→(unw st=none→∀hp',FS hpS hp' a14 a15 a16 a17 la S seen []→Q .brk loc hp')→
 kT (kL (ap 14)) dz (ay sJ aB) Q n loc hp:=by
 intro st
 induction st with
 |nil=>
  intro n hp loc hn f l q1 q2
  obtain⟨n,rfl⟩:=ef (gz hn)
  have h14:hp a14=some (.lst []):=by simpa using f.h14
  repeat refine rv l.l14 ?_
  try simp only[tr_ref h14]
  simp
  exact q2 rfl hp f
 |cons e st ih=>
  intro n hp loc hn f l q1 q2
  obtain⟨u,rem,I⟩:=e
  obtain⟨n,rfl⟩:=ef (gz (bc (aD _) hn))
  simp only[aE]at hn
  have h14:=f.h14
  have hlim:lim=1000000:=rfl
  obtain⟨hl1,hl2⟩:=f.len r.sz
  have hne:(fO (λe:kR=>V.int e.1) ((u,rem,I)::st).reverse).isEmpty=false:=by simp
  repeat refine rv l.l14 ?_
  try simp only[tr_ref h14]
  rw[hne]
  refine⟨by rw[ak,lA];exact lim2 _ hl1,?_⟩
  simp only[Bool.not_false,if_true]
  refine x7 r f l (λs rem' hp' e f'=>?_) (λhp' e f'=>?_)
  ·subst e
   exact q1 s _ _ hp' rfl f' l.upd (by simp)
  ·subst e
   exact ih n hp' loc (ks hn) f' l q1 q2
end
section
variable{Z hpS hp:Hp}{x dd D R a14 a15 a16 a17:Addr}{ia la:Int→Addr}{S:SS}{seen:List Int}{st:List kR}
noncomputable def ring(v:Int)(st:List kR):List Int:=(st.map (·.1)).reverse.drop (posI v st)++[v]
theorem FS.inSeen(f:FS hpS hp a14 a15 a16 a17 la S seen st){v:Int}{Q:V→Hp→Prop}:AF (.int v) (.ref a16) Q hp=Q (.bool (decide (v∈seen))) hp:=by
 apply propext;constructor
 ·rintro⟨r,h,q⟩
  obtain⟨k,hk,rfl⟩:=(inRes_o f.h16).mp h
  cases hk;exact q
 ·intro q;exact⟨_,(inRes_o f.h16).mpr ⟨v,rfl,rfl⟩,q⟩
theorem FS.inStk(f:FS hpS hp a14 a15 a16 a17 la S seen st){v:Int}{Q:V→Hp→Prop}:AF (.int v) (.ref a17) Q hp=Q (.bool (decide (v∈st.map (·.1)))) hp:=by
 obtain⟨ep,h17⟩:=f.h17
 apply propext;constructor
 ·rintro⟨r,h,q⟩
  obtain⟨k,hk,rfl⟩:=(inRes_o h17).mp h
  cases hk;rw[ent_any]at q;exact q
 ·intro q;exact⟨_,(inRes_o h17).mpr ⟨v,rfl,rfl⟩,by rw[ent_any];exact q⟩
theorem fc_ring{Q:Fw→aZ→Hp→Prop}{X:XS}{loc:aZ}{v:Int}(r:Rep Z hpS x dd D ia la R S)(f:FS hpS hp a14 a15 a16 a17 la S seen st)(l:LC loc D a14 a15 a16 a17)(e1:loc 1=some (.int v))
 (q0:v∈st.map (·.1)→Q (.ret (.lst ((ring v st).map .int))) loc hp)(q1:v∉st.map (·.1)→Q .next loc hp):
 ay (jX (cF AF (ap 1) (ap 17)) (ay (fQ (bK d9 (wj (ap 14) (bK dJ (ap 17) (ap 1)) (aJ .none) (aJ .none)) (i3 (av (ap 1) aF)))) aB) aB) aB Q X loc hp:=by
 obtain⟨hl1,hl2⟩:=f.len r.sz
 refine sq ?_
 rw[pT,mA,bV,rd e1,bV,rd l.l17,f.inStk,kB]
 by_cases c2:v∈st.map (·.1)
 ·rw[decide_eq_true c2]
  refine iT rfl ?_
  obtain⟨ep,h17⟩:=f.h17
  have hcut:pw (st.reverse.map λe=>V.int e.1) (some (posI v st:Nat)) ac ac=((st.map (·.1)).reverse.drop (posI v st)).map .int:=by
   rw[yh]
   simp[List.map_drop,tT]
  refine sq ?_
  repeat first|refine rv e1 ?_|refine rv l.l14 ?_|refine rv l.l17 ?_|refine cn ?_
  try simp only[item_dict h17 (wV v st f.ndn c2)]
  refine⟨_,some (posI v st:Nat),ac,ac,listOf_ref f.h14,by simp;exact lim2 _ (f.len r.sz).1,rfl,rfl,rfl,by simp,?_⟩
  rw[hcut]
  simp only[qA,cr,bV,rd e1,ek,uw]
  refine⟨lim2 _ (by simp),by simp;exact lim4 (ae (aR (ae (xj _ _) (f.len r.sz).1)) (by decide)),?_⟩
  rw[show((st.map (·.1)).reverse.drop (posI v st)).map V.int++[V.int v]=(ring v st).map .int by simp[ring]]
  exact q0 c2
 ·rw[decide_eq_false c2]
  refine iF aH ?_
  exact q1 c2
theorem zy{Q:Fw→aZ→Hp→Prop}{X:XS}{loc:aZ}{v:Int}(r:Rep Z hpS x dd D ia la R S)(f:FS hpS hp a14 a15 a16 a17 la S seen st)(l:LC loc D a14 a15 a16 a17)(e1:loc 1=some (.int v))(hv:v∈S.nodes)(c:v∉seen)
 (q:∀I hp',FS hpS hp' a14 a15 a16 a17 la S (v::seen) ((v,S.succ v,I)::st)→Q .next loc hp'):
 ay (jt (b7 wt AU (ap 16) (av (ap 1) aF))) (ay (jt (b7 ip fF (ap 15) (av (bU to (aS wz (av (bU (gh cN 2) (bK dJ (ap 13) (ap 1))) aF))) aF)))
  (ay (bE (aS iK (av (ap 14) aF)) (lE (ap 17) (ap 1))) (ay (jt (b7 ip fF (ap 14) (av (ap 1) aF))) aB))) Q X loc hp:=by
 have hlim:lim=1000000:=rfl
 obtain⟨hl1,hl2⟩:=f.len r.sz
 have c2:v∉st.map (·.1):=λh=>by
  obtain⟨e,he,rfl⟩:=an.mp h
  exact c (f.sin e he)
 obtain⟨ep,h17⟩:=f.h17
 obtain⟨p1,p2,p3,p4,p5⟩:=f.n16x
 obtain⟨epD,hD⟩:=r.hD
 refine sq ?_
 rw[wX,nS,bV,rd l.l16,cr,bV,rd e1,ek]
 refine⟨⟨a16,_,rfl,f.h16⟩,a16,seen,v,rfl,f.h16,by unfold scanBound;exact bc (aR hl2) (by decide),?_⟩
 rw[if_neg c]
 refine nsq ?_
 have o1:∀a,a≠a16→upd hp a16 (.set (v::seen)) a=hp a:=λa h=>upd_ne h
 have g16:upd hp a16 (.set (v::seen)) a16=some (.set (v::seen)):=us
 generalize upd hp a16 (.set (v::seen))=hp1 at*
 have gD:=(o1 _ (ne_none hD f.n16)).trans (f.gr _ _ hD)
 have gi:=(o1 _ (ne_none (r.hi v hv) f.n16)).trans (f.gr _ _ (r.hi v hv))
 have gl:=(o1 _ (ne_none (r.hl v hv) f.n16)).trans (f.gr _ _ (r.hl v hv))
 have g15:=(o1 _ (aI p2)).trans f.h15
 refine rv l.l15 ?_
 refine⟨isLst_ref g15,?_⟩
 refine rv l.l13 (rv e1 (BC gD (by rw[find_nodes,if_pos hv]) (FA gi (k:=2) (v:=.ref (la v)) rfl rfl ?_)))
 refine⟨la v,_,rfl,gl,λI hI=>?_⟩
 have hI16:I≠a16:=by rintro rfl;rw[g16]at hI;cases hI
 have n14:a14≠I:=ne_none ((o1 _ (aI p1)).trans f.h14) hI
 have n15:a15≠I:=ne_none g15 hI
 have n17:a17≠I:=ne_none ((o1 _ (aI p3)).trans h17) hI
 have hIhp:hp I=ac:=(o1 I hI16).symm.trans hI
 have oo:∀a,a≠a16→a≠I→upd hp1 I (.it (la v) 0) a=hp a:=λa h h2=>(upd_ne h2).trans (o1 a h)
 have gI:upd hp1 I (.it (la v) 0) I=some (.it (la v) 0):=us
 have k16:=(upd_ne (v:=.it (la v) 0) (aI hI16)).trans g16
 refine⟨la v,0,gI,?_⟩
 generalize upd hp1 I (.it (la v) 0)=hp2 at*
 clear gD gi gl g15 g16 o1 hI hD
 refine nl ?_
 refine gF (us:=st.reverse.map λe=>V.nxt e.2.2) ((oo _ (aI p2) n15).trans f.h15) (by simp;exact lim2 _ hl1) (nsq ?_)
 rw[gO,eG,cr,bV,rd l.l14,ek,len_ref (vs:=st.reverse.map λe=>V.int e.1) ((upd_ne f.ne).trans ((oo _ (aI p1) n14).trans f.h14)) (by simp;exact lim2 _ hl1),uq,bV,rd l.l17,bV,rd e1]
 refine⟨a17,v,rfl,rfl,?_⟩
 rw[upd_ne p5,oo _ (aI p3) n17,h17]
 refine⟨by rw[uo];first|exact hl1|exact ae hl1 (of_decide_eq_true rfl)|exact bc hl1 (of_decide_eq_true rfl),λep'=>nsq ?_⟩
 rw[zD c2,wX,nS,bV,rd l.l14,cr,bV,rd e1,ek]
 have k14:(upd (upd hp2 a15 (.lst ((st.reverse.map λe=>V.nxt e.2.2)++[.nxt I]))) a17 (.dict (lC st++[(v,.int (st.reverse.map λe=>V.int e.1).length)]) ep')) a14=some (.lst (st.reverse.map λe=>V.int e.1)):=
  (upd_ne (aI p4)).trans ((upd_ne f.ne).trans ((oo _ (aI p1) n14).trans f.h14))
 refine⟨isLst_ref k14,gF k14 (by simp;exact lim2 _ hl1) (nx (q I _ ?_))⟩
 exact f.push (v:=v) (I:=I) (ep:=ep') c hv hIhp us ((upd_ne (aI f.ne)).trans ((upd_ne (aI p5)).trans us)) ((upd_ne p1).trans ((upd_ne p3).trans ((upd_ne p2).trans k16))) ((upd_ne p4).trans (us.trans (by rw[ak,lA]))) ((upd_ne (aI n14)).trans ((upd_ne (aI n17)).trans ((upd_ne (aI n15)).trans gI)))
  (λa h1 h2 h3 h4 h5=>(upd_ne h1).trans ((upd_ne h4).trans ((upd_ne h2).trans (oo a h3 h5))))
theorem x6{R':Fw→aZ→Hp→Prop}{X:XS}{loc:aZ}{v:Int}(r:Rep Z hpS x dd D ia la R S)(f:FS hpS hp a14 a15 a16 a17 la S seen st)(l:LC loc D a14 a15 a16 a17)(e1:loc 1=some (.int v))(hv:v∈S.nodes)
 (q0:v∈seen→v∈st.map (·.1)→R' (.ret (.lst ((ring v st).map .int))) loc hp)
 (q1:∀seen1 st1,((v∈seen∧v∉st.map (·.1)∧seen1=seen∧st1=st)∨(v∉seen∧seen1=v::seen∧∃I,st1=(v,S.succ v,I)::st))→
  (∀s st' loc' hp',unw st1=some (s,st')→FS hpS hp' a14 a15 a16 a17 la S seen1 st'→LC loc' D a14 a15 a16 a17→loc' 1=some (.int s)→R' .next loc' hp')∧(unw st1=none→∀loc' hp',LC loc' D a14 a15 a16 a17→FS hpS hp' a14 a15 a16 a17 la S seen1 []→R' .brk loc' hp')):d7 R' X loc hp:=by
 have wh:∀(seen1:List Int)(st1:List kR)(hp1:Hp),FS hpS hp1 a14 a15 a16 a17 la S seen1 st1→((v∈seen∧v∉st.map (·.1)∧seen1=seen∧st1=st)∨(v∉seen∧seen1=v::seen∧∃I,st1=(v,S.succ v,I)::st))→
  nxt (ay (oj (kL (ap 14)) dz (ay sJ aB)) aB) R' X .next loc hp1:=by
  intro seen1 st1 hp1 f1 h
  obtain⟨qa,qb⟩:=q1 seen1 st1 h
  exact nsq ⟨st1.length+1,x5 r st1 _ hp1 loc (cR _) f1 l (λs st' loc' hp' h1 h2 h3 h4=>nx (qa s st' loc' hp' h1 h2 h3 h4)) (λh1 hp' h2=>qb h1 loc hp' l h2)⟩
 unfold d7
 refine sq ?_
 rw[pT,mA,bV,rd e1,bV,rd l.l16,f.inSeen,kB]
 by_cases c:v∈seen
 ·rw[decide_eq_true c]
  refine iT rfl ?_
  exact fc_ring r f l e1 (q0 c) λc2=>wh seen st hp f (.inl ⟨c,c2,rfl,rfl⟩)
 ·rw[decide_eq_false c]
  refine iF aH ?_
  exact zy r f l e1 hv c λI hp' f'=>wh _ _ hp' f' (.inr ⟨c,rfl,I,rfl⟩)
end
noncomputable def toS(st:List kR):E6:=st.map λe=>(e.1,e.2.1)
structure GB(S:SS)(B:Int→Prop)(rank:Int→Nat):Prop where
 cls:∀v∈S.nodes,∀s∈S.succ v,s∈S.nodes
 bad:∀v∈S.nodes,B v→∃s∈S.succ v,B s
 good:∀v∈S.nodes,¬B v→∀s∈S.succ v,¬B s∧rank s<rank v
noncomputable def sM(S:SS)(B:Int→Prop)(root:Int→Prop)(seen:List Int)(v:Int)(st:List kR):Prop:=
 v∈S.nodes∧Ch S.succ B root v (toS st)∧(∀s∈seen,s∉st.map (·.1)→¬B s)∧∀e∈st,e.1∈S.nodes
noncomputable def AX(S:SS)(B:Int→Prop)(root:Int→Prop)(seen:List Int)(st:List kR):Prop:=
 (match st with| []=>True|e::st'=>(∃c,S.succ e.1=c++e.2.1∧∀y∈c,¬B y)∧Ch S.succ B root e.1 (toS st'))∧(∀s∈seen,s∉st.map (·.1)→¬B s)∧∀e∈st,e.1∈S.nodes
section
variable{S:SS}{B:Int→Prop}{rank:Int→Nat}{root:Int→Prop}{seen:List Int}{v:Int}{st:List kR}
theorem xU(g:GB S B rank):∀(st:List kR),AX S B root seen st→(∀s st',unw st=some (s,st')→sM S B root seen s st')∧(unw st=none→∀s∈seen,¬B s):=by
 intro st
 induction st with
 |nil=>exact λh=>⟨λs st' e=>by(cases e),λx s hs=>h.2.1 s hs (by simp)⟩
 |cons e st ih=>
  intro h
  obtain⟨u,rem,I⟩:=e
  obtain⟨⟨⟨c,hc,hg⟩,hch⟩,hf,hn⟩:=h
  cases rem with
  |nil=>
   have hu:u∈S.nodes:=hn (u,[],I) ai
   simp only[aN]at hc
   have hub:¬B u:=λhb=>by
    obtain⟨s,hs,hb'⟩:=g.bad u hu hb
    rw[hc]at hs;exact hg s hs hb'
   have:AX S B root seen st:=by
    refine⟨?_,λs hs hns=>?_,λe he=>hn e (am _ he)⟩
    ·cases st with
     |nil=>trivial
     |cons e st'=>
      simp only[toS,ao,Ch]at hch
      obtain⟨⟨c',h1,h2⟩,h3⟩:=hch
      refine⟨⟨c'++[u],by rw[h1];simp,λy hy=>?_⟩,h3⟩
      rcases az.mp hy with h|h
      ·exact h2 y h
      ·simp at h;subst h;exact hub
    ·by_cases z:s=u
     ·subst z;exact hub
     ·exact hf s hs (by simp only[ao,ah,not_or];exact⟨z,hns⟩)
   exact ih this
  |cons s rem=>
   have hu:u∈S.nodes:=hn (u,s::rem,I) ai
   refine⟨λs' st' e=>?_,λe=>by cases e⟩
   simp only[unw,cO,pC]at e
   obtain⟨rfl,rfl⟩:=e
   refine⟨g.cls u hu s (by rw[hc];simp),⟨⟨c,hc,hg⟩,hch⟩,hf,λe he=>?_⟩
   rcases ah.mp he with rfl|he
   ·exact hu
   ·exact hn e (am _ he)
theorem ch_rank(g:GB S B rank):∀(st:List kR)(v:Int),(∀e∈st,e.1∈S.nodes)→Ch S.succ B root v (toS st)→∀e∈st,¬B e.1→¬B v∧rank v<rank e.1:=by
 intro st
 induction st with
 |nil=>intro v _ _ e he;cases he
 |cons e0 st ih=>
  intro v hn h e he hb
  simp only[toS,ao,Ch]at h
  obtain⟨⟨c,hc,_⟩,hch⟩:=h
  have h0:=hn e0 ai
  have hv:v∈S.succ e0.1:=by rw[hc];simp
  rcases ah.mp he with rfl|he
  ·exact g.good e.1 h0 hb v hv
  ·obtain⟨h1,h2⟩:=ih e0.1 (λe he=>hn e (am _ he)) hch e he hb
   obtain⟨h3,h4⟩:=g.good e0.1 h0 h1 v hv
   exact⟨h3,ew h4 h2⟩
theorem sM.bad(g:GB S B rank)(h:sM S B root seen v st)(hm:v∈st.map (·.1)):B v:=by
 by_cases c:B v
 ·exact c
 ·obtain⟨e,he,rfl⟩:=an.mp hm
  exact absurd (ch_rank g st e.1 h.2.2.2 h.2.1 e he c).2 (dC _)
theorem sM.toB(h:sM S B root seen v st){seen1:List Int}{st1:List kR}(hc:(v∈seen∧v∉st.map (·.1)∧seen1=seen∧st1=st)∨(v∉seen∧seen1=v::seen∧∃I,st1=(v,S.succ v,I)::st)):AX S B root seen1 st1:=by
 rcases hc with⟨h1,h2,rfl,rfl⟩|⟨h1,rfl,I,rfl⟩
 ·have hg:=h.2.2.1 v h1 h2
  refine⟨?_,h.2.2.1,h.2.2.2⟩
  have hch:=h.2.1
  cases st1 with
  |nil=>trivial
  |cons e st'=>
   simp only[toS,ao,Ch]at hch
   obtain⟨⟨c',h1,h2⟩,h3⟩:=hch
   refine⟨⟨c'++[v],by rw[h1];simp,λy hy=>?_⟩,h3⟩
   rcases az.mp hy with h|h
   ·exact h2 y h
   ·simp at h;subst h;exact hg
 ·refine⟨⟨⟨[],by simp,by simp⟩,h.2.1⟩,λs hs hn=>?_,λe he=>?_⟩
  ·simp only[ao,ah,not_or]at hn
   rcases ah.mp hs with rfl|hs
   ·exact absurd rfl hn.1
   ·exact h.2.2.1 s hs hn.2
  ·rcases ah.mp he with rfl|he
   ·exact h.1
   ·exact h.2.2.2 e he
noncomputable def remS(st:List kR):Nat:=(st.map λe=>e.2.1.length).sum
noncomputable def unS(succ:Int→List Int)(nodes seen:List Int):Nat:=((nodes.filter λn=>decide (n∉seen)).map λn=>(succ n).length).sum
theorem xB:∀(st:List kR)(s:Int)(st':List kR),unw st=some (s,st')→remS st'+1=remS st:=by
 intro st
 induction st with
 |nil=>intro s st' h;cases h
 |cons e st ih=>
  intro s st' h
  obtain⟨u,rem,I⟩:=e
  cases rem with
  |nil=>
   exact(ih s st' h).trans (aW _).symm
  |cons x rem=>
   simp only[unw,cO,pC]at h
   obtain⟨rfl,rfl⟩:=h
   exact bj _ _ _
theorem xo(succ:Int→List Int)(v:Int)(seen:List Int):∀(nodes:List Int),nodes.Nodup→v∈nodes→v∉seen→unS succ nodes (v::seen)+(succ v).length=unS succ nodes seen:=by
 intro xs_
 induction xs_ with
 |nil=>
  intros;simp_all
 |cons n nodes IH=>
  intro hn hv hs
  rw[aC]at hn
  unfold unS
  by_cases c:n=v
  ·subst c
   have e1:(n::nodes).filter (λm=>decide (m∉n::seen))=nodes.filter λm=>decide (m∉seen):=by
    rw[aQ,if_neg (by simp)]
    apply gk
    intro m hm
    have:m≠n:=by rintro rfl;exact hn.1 hm
    simp[this]
   have e2:(n::nodes).filter (λm=>decide (m∉seen))=n::nodes.filter λm=>decide (m∉seen):=by
    rw[aQ,if_pos (by simpa using hs)]
   rw[e1,e2,ao,bh];exact ca _ _
  ·have hv':v∈nodes:=by
    rcases ah.mp hv with h|h
    ·exact absurd h.symm c
    ·exact h
   have ih:=IH hn.2 hv' hs
   unfold unS at ih
   rw[aQ,aQ]
   by_cases d:n∈seen
   ·rw[if_neg (by simp[d]),if_neg (by simp[d])];exact ih
   ·rw[if_pos (by simp[d,c]),if_pos (by simp[d])]
    rw[ao,ao,bh,bh,bN,ih]
end
section
variable{Z hpS hp:Hp}{x dd D R a14 a15 a16 a17:Addr}{ia la:Int→Addr}{S:SS}{B:Int→Prop}{rank:Int→Nat}{root:Int→Prop}
theorem x0{Q:Fw→aZ→Hp→Prop}(r:Rep Z hpS x dd D ia la R S)(g:GB S B rank):∀(n:Nat)(seen:List Int)(st:List kR)(v:Int)(hp:Hp)(loc:aZ),remS st+unS S.succ S.nodes seen<n→FS hpS hp a14 a15 a16 a17 la S seen st→LC loc D a14 a15 a16 a17→loc 1=some (.int v)→sM S B root seen v st→
 (∀st v hp' loc',Ch S.succ B root v (toS st)→B v→v∈st.map (·.1)→(st.map (·.1)).Nodup→(∀e∈st,e.1∈S.nodes)→Grow hpS hp'→Q (.ret (.lst ((ring v st).map .int))) loc' hp')→
 (∀seen' hp' loc',(∀s∈seen,s∈seen')→v∈seen'→(∀s∈seen',¬B s)→FS hpS hp' a14 a15 a16 a17 la S seen' []→LC loc' D a14 a15 a16 a17→Q .next loc' hp')→
 kT (kL (aJ (.bool true))) d7 aB Q n loc hp:=by
 intro n
 induction n with
 |zero=>intro seen st v hp loc hn;exact absurd hn (eH _)
 |succ n ih=>
  intro seen st v hp loc hn f l e1 inv q0 q1
  refine⟨true,rfl,nofun,iT rfl ?_⟩
  refine x6 r f l e1 inv.1 (λhs hm=>q0 st v hp loc inv.2.1 (inv.bad g hm) hm f.ndn inv.2.2.2 f.gr) λseen1 st1 hc=>?_
  have ib:=xU g _ (inv.toB hc)
  have hmu:remS st1+unS S.succ S.nodes seen1=remS st+unS S.succ S.nodes seen:=by
   rcases hc with⟨h1,h2,rfl,rfl⟩|⟨h1,rfl,I,rfl⟩
   ·rfl
   ·have:=xo S.succ v seen S.nodes r.nd inv.1 h1
    show(S.succ v).length+remS st+unS S.succ S.nodes (v::seen)=_;rw[←this,ca (S.succ v).length,bN,ca (S.succ v).length]
  have hsub:(∀s∈seen,s∈seen1)∧v∈seen1:=by
   rcases hc with⟨h1,h2,rfl,rfl⟩|⟨h1,rfl,I,rfl⟩
   ·exact⟨λs h=>h,h1⟩
   ·exact⟨λs h=>am _ h,ai⟩
  refine⟨λs st' loc' hp' hu f' l' e'=>?_,λhu loc' hp' l' f'=>q1 seen1 hp' loc' hsub.1 hsub.2 (ib.2 hu) f' l'⟩
  have:=xB st1 s st' hu
  exact ih seen1 st' s hp' loc' (ks (bc (aT ((bj (remS st') _ 1).trans ((congrArg (·+unS S.succ S.nodes seen1) this).trans hmu))) hn)) f' l' e' (ib.1 s st' hu) q0 λseen' hp2 loc2 h1 h2 h3 f2 l2=>q1 seen' hp2 loc2 (λs hs=>h1 s (hsub.1 s hs)) (h1 v hsub.2) h3 f2 l2
noncomputable def wq(B:Int→Prop)(nodes:List Int)(v:Int):Prop:=∃pre suf,nodes=pre++v::suf∧∀u∈pre,¬B u
theorem Bf{Q:Fw→aZ→Hp→Prop}(r:Rep Z hpS x dd D ia la R S)(g:GB S B rank){hp0:Hp}(h0:hp0 D=hpS D):∀(suf pre seen:List Int)(hp:Hp)(loc:aZ),S.nodes=pre++suf→(∀u∈pre,u∈seen)→(∀s∈seen,¬B s)→FS hpS hp a14 a15 a16 a17 la S seen []→LC loc D a14 a15 a16 a17→
 (∀st v hp' loc',Ch S.succ B (wq B S.nodes) v (toS st)→B v→v∈st.map (·.1)→(st.map (·.1)).Nodup→(∀e∈st,e.1∈S.nodes)→Grow hpS hp'→Q (.ret (.lst ((ring v st).map .int))) loc' hp')→
 (∀hp' loc',(∀s∈S.nodes,¬B s)→Grow hpS hp'→Q .next loc' hp')→
 de (.ref D) hp0 (aG 1) fL Q (suf.map .int) loc hp:=by
 intro xs_
 induction xs_ with
 |nil=>
  intro pre seen hp loc hnp hps hs f l q0 q1
  show Q .next loc hp
  rw[aN]at hnp
  exact q1 hp loc (λs h=>hs s (hps s (hnp▸h))) f.gr
 |cons v suf ih=>
  intro pre seen hp loc hnp hps hs f l q0 q1
  refine gv ?_
  have hv:v∈S.nodes:=by rw[hnp];simp
  have e1:(upd loc 1 (V.int v)) 1=some (.int v):=by simp
  have l':LC (upd loc 1 (V.int v)) D a14 a15 a16 a17:=l.upd
  obtain⟨epD,hD⟩:=r.hD
  have same:∀hp',Grow hpS hp'→same (.ref D) hp0 hp':=λhp' k=>by
   show hp' D=hp0 D
   rw[h0,k _ _ hD,hD]
  have hnp':S.nodes=(pre++[v])++suf:=by rw[hnp];simp
  simp only[fL,sZ,pT,mA,bV,rd e1,rd l'.l16,f.inSeen,kB]
  by_cases c:v∈seen
  ·simp only[c,decide_true,if_true,zF]
   refine⟨same hp f.gr,ih (pre++[v]) seen hp _ hnp' (λu hu=>?_) hs f l' q0 q1⟩
   rcases az.mp hu with h|h
   ·exact hps u h
   ·simp at h;subst h;exact c
  ·simp only[c,decide_false]
   simp
   have inv:sM S B (wq B S.nodes) seen v []:=⟨hv,⟨pre,suf,hnp,λu hu=>hs u (hps u hu)⟩,λs h z=>hs s h,by simp⟩
   refine⟨remS []+unS S.succ S.nodes seen+1,x0 r g _ seen [] v hp _ (cR _) f l' e1 inv (λst w hp' loc' h1 h2 h3 h4 h5 h6=>?_) (λseen' hp' loc' h1 h2 h3 f' l2=>?_)⟩
   ·exact q0 st w hp' loc' h1 h2 h3 h4 h5 h6
   ·refine⟨same hp' f'.gr,ih (pre++[v]) seen' hp' loc' hnp' (λu hu=>?_) h3 f' l2 q0 q1⟩
    rcases az.mp hu with h|h
    ·exact h1 u (hps u h)
    ·simp at h;subst h;exact h2
theorem Bu{Q:V→Hp→Prop}{X:XA}(r:kZ Z hp x S)(g:GB S B rank)(q0:∀(st:List kR) v hp',Ch S.succ B (wq B S.nodes) v (toS st)→B v→v∈st.map (·.1)→(st.map (·.1)).Nodup→(∀e∈st,e.1∈S.nodes)→Grow hp hp'→Q (.lst ((ring v st).map .int)) hp')
 (q1:∀hp',(∀s∈S.nodes,¬B s)→Grow hp hp'→Q .none hp'):eV [.ref x] Q X hp:=by
 obtain⟨dd,D,ia,la,R,r⟩:=r
 refine⟨[(0,.ref x)],rfl,?_⟩
 have a2:∀(Q:V→Hp→Prop),bn cT 2 (.ref x) Q hp=Q (.ref D) hp:=λQ=>r.at rfl rfl
 simp only[jn,sZ,gO,jz,bV,wI,if_true,a2,qz,Bq,ek]
 refine⟨by simp,λa14 h14=>⟨by simp,λa15 h15=>?_⟩⟩
 simp only[eG,ek]
 refine⟨rfl,λa16 h16=>?_⟩
 simp only[zJ]
 intro a17 h17 ep
 have n15:a15≠a14:=by rintro rfl;simp at h15
 rw[upd_ne n15]at h15
 have n16a:a16≠a15:=by rintro rfl;simp at h16
 rw[upd_ne n16a]at h16
 have n16b:a16≠a14:=by rintro rfl;simp at h16
 rw[upd_ne n16b]at h16
 have n17a:a17≠a16:=by rintro rfl;simp at h17
 rw[upd_ne n17a]at h17
 have n17b:a17≠a15:=by rintro rfl;simp at h17
 rw[upd_ne n17b]at h17
 have n17c:a17≠a14:=by rintro rfl;simp at h17
 rw[upd_ne n17c]at h17
 obtain⟨epD,hD⟩:=r.hD
 have f:FS hp (upd (upd (upd (upd hp a14 (.lst [])) a15 (.lst [])) a16 (.set [])) a17 (.dict [] ep)) a14 a15 a16 a17 la S [] []:=by
  refine⟨(((Grow.new h14).upd h15).upd h16).upd h17,h14,h15,h16,h17,?_,?_,?_,⟨ep,by simp[lC]⟩,aI n15,by simp,by simp,by simp,by simp,by simp,by simp⟩
  ·rw[upd_ne (aI n17c),upd_ne (aI n16b),upd_ne (aI n15)];simp
  ·rw[upd_ne (aI n17b),upd_ne (aI n16a)];simp
  ·rw[upd_ne (aI n17a)];simp
 have gD:=f.gr _ _ hD
 simp[-cy]
 refine⟨S.nodes.map .int,(qV gD).trans (by simp),?_⟩
 refine Bf (Z:=Z) (x:=x) (R:=R) r g (hp0:=upd (upd (upd (upd hp a14 (.lst [])) a15 (.lst [])) a16 (.set [])) a17 (.dict [] ep)) (gD.trans hD.symm) S.nodes [] [] _ _ (by simp) (by simp) (by simp) f ⟨by simp[upd],by simp[upd],by simp[upd],by simp[upd],by simp[upd]⟩ (λst v hp' loc' h1 h2 h3 h4 h5 h6=>q0 st v hp' h1 h2 h3 h4 h5 h6) (λhp' loc' h1 h2=>q1 hp' h1 h2)
end
section
variable{Z hp:Hp}{x dd D R:Addr}{ia la:Int→Addr}{S:SS}{B:Int→Prop}{rank:Int→Nat}
theorem Rep.newReady(r:Rep Z hp x dd D ia la R S)(h:S.ready=none){l:Addr}{q:List Int}(hl:hp l=ac):Rep Z (upd (upd hp l (.lst (q.map .int))) dd (.ns [(2,.ref D),(5,.ref l),(11,.int S.pass),(12,.int S.fin)])) x dd D ia la l {S with ready:=some q}:=by
 obtain⟨ep,hD⟩:=r.hD
 have nl:∀a o,hp a=some o→a≠l:=λa o e=>ne_none e hl
 have K:∀a o,hp a=some o→a≠dd→(upd (upd hp l (.lst (q.map .int))) dd (.ns [(2,.ref D),(5,.ref l),(11,.int S.pass),(12,.int S.fin)])) a=some o:=λa o e n=>by rw[upd_ne n,upd_ne (nl a o e)];exact e
 refine{hx:=K _ _ r.hx (ne_of r.hx r.hd (by simp)),hd:=by simp[zZ],hD:=⟨ep,K _ _ hD (ne_of hD r.hd (by simp))⟩,hi:=λn hn=>K _ _ (r.hi n hn) (ne_of (r.hi n hn) r.hd (by simp[vI])),hl:=λn hn=>K _ _ (r.hl n hn) (ne_of (r.hl n hn) r.hd (by simp))
        hr:=λq' h'=>?_,ii:=r.ii,ll:=r.ll,lR:=λz n hn=>nl _ _ (r.hl n hn),nd:=r.nd,df:=r.df,gr:=(r.gr.upd (r.gr.back hl)).upd r.od,ox:=r.ox,od:=r.od,oD:=r.oD,oi:=r.oi,oR:=λz=>r.gr.back hl,sz:=r.sz}
 cases h'
 rw[upd_ne (aI (nl _ _ r.hd))];simp
noncomputable def prepS(S:SS):SS:={S with ready:=some (S.nodes.filter λn=>decide (S.np n=0))}
theorem vM{Q:V→Hp→Prop}{X:XA}(o:kZ Z hp x S)(hr:S.ready=none)(g:GB S B rank)(q0:∀hp',kZ Z hp' x (prepS S)→(∃v∈S.nodes,B v)→X 1 hp')(q1:∀hp',kZ Z hp' x (prepS S)→(∀s∈S.nodes,¬B s)→Q .none hp'):g9 [.ref x] Q X hp:=by
 obtain⟨dd,D,ia,la,R,o⟩:=o
 refine⟨[(0,.ref x)],rfl,?_⟩
 have o0:locOf [(0,V.ref x)] 0=some (.ref x):=rfl
 generalize locOf [(0,V.ref x)]=lo at*
 obtain⟨ep,hD⟩:=o.hD
 have hsz:=ae o.sz (by decide:1000≤lim)
 unfold ma
 refine sq (rv o0 ((o.at (v:=.none) (by rw[hr];rfl) rfl).mpr (cn ⟨_,rfl,xb (iF (by decide) (nsq (rv o0 ((o.at rfl rfl).mpr ⟨⟨D,_,ep,rfl,hD⟩,nl ⟨D,_,ep,rfl,hD,S.nodes.map λn=>V.ref (ia n),(qU hD).trans (by rw[aL];rfl),?_⟩⟩))))⟩)))
 refine oH (λn=>V.ref (ia n)) (λn=>decide (S.np n=0)) V.int S.nodes [] hp (by rw[cm,aW];exact hsz) rfl (λn hn acc ha R' hR=>gv (rv us ((o.slot hn (k:=1) rfl rfl).mpr (cn (eq_int (xb ?_)))))) (λl hl=>?_)
 ·by_cases c:S.np n=0
  ·rw[if_pos (decide_eq_true c)]at hR
   exact iT (decide_eq_true c) ⟨ha,rv us ((o.slot hn (k:=0) rfl rfl).mpr hR)⟩
  ·rw[if_neg (by simpa using c)]at hR
   exact iF (by simpa using c) hR
 ·have hx':=(o.grow (Grow.new (o:=.lst ((S.nodes.filter λn=>decide (S.np n=0)).map .int)) hl))
  have o2:=o.newReady hr (q:=S.nodes.filter λn=>decide (S.np n=0)) hl
  have o3:kZ Z _ x (prepS S):=⟨dd,D,ia,la,l,o2⟩
  refine rv o0 ((setA_ref hx'.hx hx'.hd (bi rfl)).mpr (nsq (rv o0 ⟨o2.inst (by decide),nl (Bu o3 ⟨g.cls,g.bad,g.good⟩ (λst v hp' h1 h2 h3 h4 h5 h6=>?_) λhp' h1 h2=>?_)⟩)))
  ·have hb:∃v∈S.nodes,B v:=by
    obtain⟨e,he,rfl⟩:=an.mp h3
    exact⟨e.1,h5 e he,h2⟩
   have hln:(ring v st).length≤1001:=by
    unfold ring
    have:=iB (st.map (·.1)) S.nodes h4 (λw hw=>by obtain⟨e,he,rfl⟩:=an.mp hw;exact h5 e he)
    have hz:=o.sz
    simp only[aw,List.length_drop,lA,ak,aE,cm]at this⊢
    exact aR (ae (xj _ _) (ae this hz))
   exact gv (nsq (rv us ⟨_,rfl,λvs h=>by cases h;rw[ak];exact ae hln (by decide),iT (by simp[ring]) (sq (rv us (nl ⟨bi rfl,q0 hp' (o3.grow h6) hb⟩)))⟩))
  ·exact gv (nsq (rv us ⟨false,rfl,nofun,iF aH (nx (q1 hp' (o3.grow h2) h1))⟩))
end
theorem foldDec_spec:∀(ss:List Int)(S:SS)(r:List Int),S.ready=some r→∃z,(ss.foldl decS S).ready=some (r++z)∧z.Nodup∧(∀m,m∈z↔1≤S.np m∧S.np m≤(ss.count m:Int))∧∀m,(ss.foldl decS S).np m=S.np m - (ss.count m:Int):=by
 intro xs_
 induction xs_ with
 |nil=>
  intro S r h
  exact⟨[],by simpa using h,by simp,λm=>⟨nofun,λh=>absurd (dy h.1 h.2:(1:Int)≤(0:Nat)) (by decide)⟩,λm=>by simp⟩
 |cons s ss ih=>
  intro S r h
  have hnp:∀m,(decS S s).np m=if m=s then S.np s - 1 else S.np m:=λm=>by simp[decS,setF]
  by_cases c:S.np s - 1=0
  ·have hr:(decS S s).ready=some (r++[s]):=by simp[decS,h,c]
   obtain⟨z,h1,h2,h3,h4⟩:=ih (decS S s) _ hr
   refine⟨s::z,by rw[dN,h1];simp,?_,λm=>?_,λm=>?_⟩
   ·rw[aC]
    refine⟨λhm=>?_,h2⟩
    have:=(h3 s).mp hm
    rw[hnp,if_pos rfl,c]at this;exact absurd this.1 (by decide)
   ·rw[ah,h3,hnp,dP]
    by_cases e:m=s
    ·subst e;simp;exact Eh c
    ·have:(s==m)=false:=by simpa using λz=>e z.symm
     simp[e,this]
   ·rw[dN,h4,hnp,dP]
    by_cases e:m=s
    ·subst e;simp;rw[C4,kg 1]
    ·have:(s==m)=false:=by simpa using λz=>e z.symm
     simp[e,this]
  ·have hr:(decS S s).ready=some r:=by simp[decS,h,c]
   obtain⟨z,h1,h2,h3,h4⟩:=ih (decS S s) _ hr
   refine⟨z,by rw[dN,h1],h2,λm=>?_,λm=>?_⟩
   ·rw[h3,hnp,dP]
    by_cases e:m=s
    ·subst e;simp;exact Eg c
    ·have:(s==m)=false:=by simpa using λz=>e z.symm
     simp[e,this]
   ·rw[dN,h4,hnp,dP]
    by_cases e:m=s
    ·subst e;simp;rw[C4,kg 1]
    ·have:(s==m)=false:=by simpa using λz=>e z.symm
     simp[e,this]
noncomputable def inc(nodes:List Int)(succ:Int→List Int)(order:List Int)(n:Int):Nat:=((nodes.filter λp=>decide (p∉order)).map λp=>(succ p).count n).sum
theorem xV(succ:Int→List Int)(n c:Int)(order:List Int):∀nodes:List Int,nodes.Nodup→c∈nodes→c∉order→inc nodes succ (order++[c]) n+(succ c).count n=inc nodes succ order n:=by
 intro xs_
 induction xs_ with
 |nil=>
  intros;simp_all
 |cons p nodes IH=>
  intro hn hc ho
  rw[aC]at hn
  unfold inc
  by_cases e:p=c
  ·subst e
   have e1:(p::nodes).filter (λm=>decide (m∉order++[p]))=nodes.filter λm=>decide (m∉order):=by
    rw[aQ,if_neg (by simp)]
    apply gk
    intro m hm
    have:m≠p:=by rintro rfl;exact hn.1 hm
    simp[this]
   have e2:(p::nodes).filter (λm=>decide (m∉order))=p::nodes.filter λm=>decide (m∉order):=by
    rw[aQ,if_pos (by simpa using ho)]
   rw[e1,e2,ao,bh];exact ca _ _
  ·have hc':c∈nodes:=by
    rcases ah.mp hc with h|h
    ·exact absurd h.symm e
    ·exact h
   have ih:=IH hn.2 hc' ho
   unfold inc at ih
   rw[aQ,aQ]
   by_cases d:p∈order
   ·rw[if_neg (by simp[d]),if_neg (by simp[d])];exact ih
   ·rw[if_pos (by simp[d,e]),if_pos (by simp[d])]
    rw[ao,ao,bh,bh,bN,ih]
theorem y3:∀(xs:List Nat),xs.sum≠0→∃x∈xs,x≠0:=by
 intro xs_
 induction xs_ with
 |nil=>
  intro h
  exact absurd rfl h
 |cons x xs ih=>
  intro h
  by_cases c:x=0
  ·subst c
   obtain⟨y,hy,h'⟩:=ih (by simpa using h)
   exact⟨y,am _ hy,h'⟩
  ·exact⟨x,ai,c⟩
theorem u7:∀(xs:List Nat),xs.sum=0→∀x∈xs,x=0:=by
 intro xs_
 induction xs_ with
 |nil=>
  intros;simp_all
 |cons x xs ih=>
  intro h y hy
  simp only[bh]at h
  rcases ah.mp hy with rfl|hy
  ·exact(mc.mp h).1
  ·exact ih (mc.mp h).2 y hy
theorem inc_zero{nodes:List Int}{succ:Int→List Int}{order:List Int}{n:Int}:inc nodes succ order n=0↔∀p∈nodes,n∈succ p→p∈order:=by
 unfold inc
 constructor
 ·intro h p hp hn
  by_cases c:p∈order
  ·exact c
  ·have:=u7 _ h ((succ p).count n) (an.mpr ⟨p,bX.mpr ⟨hp,by simpa using c⟩,rfl⟩)
   exact absurd hn (ed.mp this)
 ·intro h
  by_cases c:((nodes.filter λp=>decide (p∉order)).map λp=>(succ p).count n).sum=0
  ·exact c
  ·obtain⟨x,hx,hne⟩:=y3 _ c
   obtain⟨p,hp,rfl⟩:=an.mp hx
   obtain⟨h1,h2⟩:=bX.mp hp
   have:n∈succ p:=by
    by_cases z:n∈succ p
    ·exact z
    ·exact absurd (ed.mpr z) hne
   exact absurd (h p h1 this) (by simpa using h2)
structure KI(nodes:List Int)(succ:Int→List Int)(order W r:List Int)(S:SS):Prop where
 hn:S.nodes=nodes
 hs:S.succ=succ
 rd:S.ready=some r
 ps:S.pass=order.length+W.length
 fi:S.fin=order.length
 dis:(order++(W++r)).Nodup
 sub:∀n∈order++(W++r),n∈nodes
 nW:∀n∈W,S.np n= -1
 nE:∀n∈nodes,n∉order→n∉W→S.np n=inc nodes succ order n
 zero:∀n∈nodes,n∉order→(n∈W++r↔inc nodes succ order n=0)
 zo:∀n∈order,inc nodes succ order n=0
section
variable{nodes:List Int}{succ:Int→List Int}{order W r:List Int}{S:SS}
theorem KI.start(nd:nodes.Nodup)(hn:S.nodes=nodes)(hs:S.succ=succ)(hp:S.pass=0)(hf:S.fin=0)(hnp:∀n∈nodes,S.np n=inc nodes succ [] n):KI nodes succ [] [] (nodes.filter λn=>decide (S.np n=0)) (prepS S):=by
 refine⟨hn,hs,by simp[prepS,hn],by simp[prepS,hp],by simp[prepS,hf],?_,?_,by simp,λn h z z=>hnp n h,λn h z=>?_,by simp⟩
 ·simp only[aX];exact nd.filter _
 ·intro n h
  simp only[aX]at h
  exact(bX.mp h).1
 ·simp only[aX,bX,h,true_and,decide_eq_true_eq]
  rw[hnp n h];exact iz _
theorem KI.out(k:KI nodes succ order W r S):KI nodes succ order (W++r) [] (mv S r):=by
 obtain⟨h1,h2,h3,h4,h5,h6⟩:=oM r S
 have hW:∀n∈W++r,(mv S r).np n= -1:=by
  intro n hn
  show(outS S r).np n= -1
  rw[h6]
  split
  ·rfl
  ·rename_i c
   rcases az.mp hn with h|h
   ·exact k.nW n h
   ·exact absurd h c
 refine⟨h1.trans k.hn,h2.trans k.hs,rfl,?_,?_,by simpa using k.dis,by simpa using k.sub,hW,λn h1 h2 h3=>?_,?_,k.zo⟩
 ·show S.pass+(r.length:Int)=_
  rw[k.ps,aw,BP];rfl
 ·show(outS S r).fin=_
  rw[h5];exact k.fi
 ·show(outS S r).np n=_
  have h3':n∉W∧n∉r:=by simpa using h3
  rw[h6,if_neg h3'.2];exact k.nE n h1 h2 h3'.1
 ·simpa using k.zero
theorem KI.done(nd:nodes.Nodup)(k:KI nodes succ order W r S){c:Int}(hc:c∈W)(hcl:∀n∈nodes,∀s∈succ n,s∈nodes):S.np c= -1∧c∈nodes∧∃z,KI nodes succ (order++[c]) (W.erase c) (r++z) (lF S c):=by
 have hcn:c∈nodes:=k.sub c (by simp[hc])
 have hco:c∉order:=λh=>by
  have:=k.dis
  rw[bR]at this
  exact this.2.2 c h c (by simp[hc]) rfl
 have dW:(W++r).Nodup:=(bR.mp k.dis).2.1
 have hWn:W.Nodup:=(bR.mp dW).1
 refine⟨k.nW c hc,hcn,?_⟩
 have hrd:({S with np:=setF S.np c (-2)}:SS).ready=some r:=k.rd
 obtain⟨z,h1,h2,h3,h4⟩:=foldDec_spec (S.succ c) {S with np:=setF S.np c (-2)} r hrd
 obtain⟨f1,f2,f3,f4⟩:=kY (S.succ c) {S with np:=setF S.np c (-2)}
 have hsc:S.succ c=succ c:=by rw[k.hs]
 rw[hsc]at h1 h3 h4 f1 f2 f3 f4
 have inc1:∀n,inc nodes succ (order++[c]) n+(succ c).count n=inc nodes succ order n:=λn=>xV succ n c order nodes nd hcn hco
 have fresh:∀n,n∈succ c→n∉order∧n∉W∧n∉r:=by
  intro n hn
  have hnn:=hcl c hcn n hn
  have hpos:inc nodes succ order n≠0:=λz=>hco (inc_zero.mp z c hcn hn)
  refine⟨λh=>hpos (k.zo n h),λh=>?_,λh=>?_⟩
  ·by_cases o:n∈order
   ·exact hpos (k.zo n o)
   ·exact hpos ((k.zero n hnn o).mp (by simp[h]))
  ·by_cases o:n∈order
   ·exact hpos (k.zo n o)
   ·exact hpos ((k.zero n hnn o).mp (by simp[h]))
 have npz:∀m,m≠c→({S with np:=setF S.np c (-2)}:SS).np m=S.np m:=λm hm=>by simp[setF,hm]
 have cc:c∉succ c:=λh=>(fresh c h).2.1 hc
 have zmem:∀m,m∈z↔m∈nodes∧m∉order∧m≠c∧m∉W∧m∉r∧m∈succ c∧inc nodes succ (order++[c]) m=0:=by
  intro m
  rw[h3]
  constructor
  ·rintro⟨g1,g2⟩
   have hm:m∈succ c:=by
    by_cases q:m∈succ c
    ·exact q
    ·rw[ed.mpr q]at g2
     have g3:=dy g1 g2
     simp at g3
   have hmc:m≠c:=λe=>cc (e▸hm)
   obtain⟨a1,a2,a3⟩:=fresh m hm
   have hmn:=hcl c hcn m hm
   rw[npz m hmc,k.nE m hmn a1 a2]at g1 g2
   exact⟨hmn,a1,hmc,a2,a3,hm,z0 (inc1 m) g2⟩
  ·rintro⟨a1,a2,a3,a4,a5,a6,a7⟩
   rw[npz m a3,k.nE m a1 a2 a4]
   rw[←inc1 m,a7,aW]
   exact⟨bI.mpr (List.count_pos_iff.mpr a6),lc _⟩
 have npd:∀m,(lF S c).np m=({S with np:=setF S.np c (-2)}:SS).np m - ((succ c).count m:Int):=λm=>by
  show(gK decS {S with np:=setF S.np c (-2)} (S.succ c)).np m=_
  rw[hsc];exact h4 m
 have eW:∀n,n∈W.erase c↔n∈W∧n≠c:=λn=>by rw[hWn.mem_erase_iff];exact⟨λh=>⟨h.2,h.1⟩,λh=>⟨h.2,h.1⟩⟩
 have pm:List.Perm ((order++[c])++(W.erase c++(r++z))) ((order++(W++r))++z):=by
  simpa[bC]using ((List.perm_cons_erase hc).symm.append_right (r++z)).append_left order
 refine⟨z,?_,?_,?_,?_,?_,?_,?_,?_,?_,?_,?_⟩
 ·show(gK decS {S with np:=setF S.np c (-2)} (S.succ c)).nodes=_
  rw[hsc,f1];exact k.hn
 ·show(gK decS {S with np:=setF S.np c (-2)} (S.succ c)).succ=_
  rw[hsc,f2];exact k.hs
 ·show(gK decS {S with np:=setF S.np c (-2)} (S.succ c)).ready=_
  rw[hsc,h1]
 ·show(gK decS {S with np:=setF S.np c (-2)} (S.succ c)).pass=_
  rw[hsc,f3]
  have e:(W.erase c).length+1=W.length:=by rw[rg hc];exact yq (sy hc)
  rw[aw]
  refine k.ps.trans (e▸?_)
  exact(congrArg ((order.length:Int)+·) (kg ((W.erase c).length:Int) 1)).trans (BP _ _ _).symm
 ·show S.fin+1=_
  rw[k.fi];simp
 ·refine pm.nodup_iff.mpr (bR.mpr ⟨k.dis,h2,λa ha b hb e=>?_⟩)
  rw[←e]at hb
  have zz:=(zmem a).mp hb
  rcases az.mp ha with h|h
  ·exact zz.2.1 h
  ·exact(az.mp h).elim zz.2.2.2.1 zz.2.2.2.2.1
 ·intro n hn
  rcases az.mp (pm.mem_iff.mp hn)with h|h
  ·exact k.sub n h
  ·exact((zmem n).mp h).1
 ·intro n hn
  obtain⟨h,hne⟩:=(eW n).mp hn
  rw[npd,npz n hne,k.nW n h,ed.mpr (λq=>(fresh n q).2.1 h)];simp
 ·intro n hn ho hw
  have ho':n∉order∧n≠c:=by simpa using ho
  have hw':n∉W:=λh=>hw ((eW n).mpr ⟨h,ho'.2⟩)
  rw[npd,npz n ho'.2,k.nE n hn ho'.1 hw',←inc1 n]
  exact mV (inc nodes succ (order++[c]) n:Int) ((succ c).count n:Int)
 ·intro n hn ho
  have ho':n∉order∧n≠c:=by simpa using ho
  have hz:=k.zero n hn ho'.1
  have:=inc1 n
  constructor
  ·intro h
   rcases az.mp h with h|h
   ·exact z1 this (hz.mp (ci _ ((eW n).mp h).1))
   ·rcases az.mp h with h|h
    ·exact z1 this (hz.mp (eL _ h))
    ·exact((zmem n).mp h).2.2.2.2.2.2
  ·intro h
   by_cases q:n∈succ c
   ·obtain⟨a1,a2,a3⟩:=fresh n q
    have:=(zmem n).mpr ⟨hn,a1,ho'.2,a2,a3,q,h⟩
    simp[this]
   ·rw[ed.mpr q]at this
    have:=hz.mpr (this.symm.trans h)
    rcases az.mp this with h'|h'
    ·exact ci _ ((eW n).mpr ⟨h',ho'.2⟩)
    ·simp[h']
 ·intro n hn
  have:=inc1 n
  rcases az.mp hn with h|h
  ·exact z1 this (k.zo n h)
  ·simp at h;subst h
   exact z1 this ((k.zero n hcn hco).mp (by simp[hc]))
end
noncomputable def tot(S:SS)(n:Int):Nat:=(S.nodes.map λp=>(S.succ p).count n).sum
structure WS(S:SS):Prop where
 nd:S.nodes.Nodup
 df:∀m,m∉S.nodes→S.succ m=[]
theorem sf(nodes:List Int)(f g:Int→Nat)(p:Int)(d:Nat)(hn:nodes.Nodup)(hp:p∈nodes)(h1:f p=g p+d)(h2:∀m,m≠p→f m=g m):(nodes.map f).sum=(nodes.map g).sum+d:=by
 induction nodes with
 |nil=>cases hp
 |cons n nodes ih=>
  rw[aC]at hn
  by_cases c:n=p
  ·subst c
   have:nodes.map f=nodes.map g:=bo λm hm=>h2 m (by rintro rfl;exact hn.1 hm)
   simp only[ao,bh,this,h1];exact bj _ _ _
  ·have hp':p∈nodes:=by
    rcases ah.mp hp with h|h
    ·exact absurd h.symm c
    ·exact h
   simp only[ao,bh,ih hn.2 hp',h2 n c];exact(bN _ _ _).symm
theorem WS.get{S:SS}(w:WS S)(n:Int):WS (fk S n)∧∀m,tot (fk S n) m=tot S m:=by
 by_cases c:n∈S.nodes
 ·have:fk S n=S:=by simp[fk,c]
  rw[this];exact⟨w,λz=>rfl⟩
 ·have hs:(fk S n).nodes=S.nodes++[n]:=by simp[fk,c]
  refine⟨⟨?_,λm hm=>?_⟩,λm=>?_⟩
  ·rw[hs,bR]
   exact⟨w.nd,by simp,λa ha b hb=>by simp at hb;subst hb;rintro rfl;exact c ha⟩
  ·rw[hs]at hm
   exact w.df m λh=>hm (ci _ h)
  ·unfold tot
   rw[hs,bQ,zU]
   have:(fk S n).succ=S.succ:=rfl
   rw[this]
   simp[w.df n c]
theorem WS.addP{S:SS}(w:WS S)(n p:Int):WS (addP n S p)∧(∀m,tot (addP n S p) m=tot S m+if m=n then 1 else 0):=by
 obtain⟨w1,t1⟩:=w.get p
 have hp:=oC S p
 have hs:(Mine.addP n S p).nodes=(fk S p).nodes:=rfl
 have hsu:∀m,(Mine.addP n S p).succ m=if m=p then S.succ p++[n]else S.succ m:=λm=>rfl
 refine⟨⟨w1.nd,λm hm=>?_⟩,λm=>?_⟩
 ·rw[hs]at hm
  have:m≠p:=by rintro rfl;exact hm hp
  rw[hsu,if_neg this];exact w1.df m hm
 ·rw[←t1 m]
  unfold tot
  rw[hs]
  refine sf _ _ _ p _ w1.nd hp ?_ λk hk=>?_
  ·rw[hsu,if_pos rfl,jl]
   show _=(S.succ p).count m+_
   congr 1
   by_cases c:m=n
   ·subst c;simp
   ·simp[c,dP,aI c]
  ·rw[hsu,if_neg hk];rfl
theorem xZ(n:Int):∀(ps:List Int)(S:SS),WS S→WS (ps.foldl (addP n) S)∧(∀m,tot (ps.foldl (addP n) S) m=tot S m+if m=n then ps.length else 0)∧(ps.foldl (addP n) S).np=S.np∧(ps.foldl (addP n) S).ready=S.ready∧(ps.foldl (addP n) S).pass=S.pass∧(ps.foldl (addP n) S).fin=S.fin∧
 (∀m,m∈(ps.foldl (addP n) S).nodes↔m∈S.nodes∨m∈ps)∧(∀p m,m∈(ps.foldl (addP n) S).succ p↔m∈S.succ p∨(m=n∧p∈ps))∧∀p,((ps.foldl (addP n) S).succ p).length≤(S.succ p).length+ps.length:=by
 intro xs_
 induction xs_ with
 |nil=>
  intro S w
  exact⟨w,λm=>by simp,rfl,rfl,rfl,rfl,λm=>by simp,λp m=>by simp,λp=>by simp⟩
 |cons q ps ih=>
  intro S w
  obtain⟨w1,t1⟩:=w.addP n q
  obtain⟨g0,g1,g2,g3,g4,g5,g6,g7,g8⟩:=ih (addP n S q) w1
  refine⟨g0,λm=>?_,g2,g3,g4,g5,λm=>?_,λp m=>?_,λp=>?_⟩
  ·rw[dN,g1,t1]
   by_cases c:m=n<;>simp[c];rw[bN,ca 1]
  ·rw[dN,g6]
   have:m∈(addP n S q).nodes↔m∈S.nodes∨m=q:=by
    show m∈(fk S q).nodes↔_
    unfold fk
    simp only[]
    split
    ·rename_i h
     constructor
     ·exact .inl
     ·rintro(h'|rfl)
      ·exact h'
      ·exact h
    ·simp
   rw[this,ah,or_assoc]
  ·rw[dN,g7]
   have:m∈(addP n S q).succ p↔m∈S.succ p∨(m=n∧p=q):=by
    show m∈setF S.succ q (S.succ q++[n]) p↔_
    unfold setF
    split
    ·rename_i h;subst h;simp
    ·rename_i h;simp[h]
   rw[this,ah]
   constructor
   ·rintro((h|⟨h1,h2⟩)|⟨h1,h2⟩)
    ·exact .inl h
    ·exact .inr ⟨h1,.inl h2⟩
    ·exact .inr ⟨h1,.inr h2⟩
   ·rintro(h|⟨h1,h2|h2⟩)
    ·exact .inl (.inl h)
    ·exact .inl (.inr ⟨h1,h2⟩)
    ·exact .inr ⟨h1,h2⟩
  ·rw[dN]
   have h1:=g8 p
   have h2:=(uK n S q).2 p
   exact ae h1 (ae (cB h2 _) (aT (bj _ 1 _)))
structure GW(S:SS)(M:Int→Prop)(L:Int→Int→Prop)(len:Nat):Prop where
 w:WS S
 np:∀n,S.np n=tot S n
 rd:S.ready=none
 ps:S.pass=0
 fi:S.fin=0
 mem:∀m,m∈S.nodes↔M m
 edg:∀p n,n∈S.succ p↔L p n
 sz:∀p,(S.succ p).length≤len
theorem GW.nil:GW ⟨[],λz=>0,λz=>[],none,0,0⟩ (λz=>False) (λz z=>False) 0:=
 ⟨⟨by simp,λz z=>rfl⟩,λn=>by simp[tot],rfl,rfl,rfl,by simp,by simp,by simp⟩
theorem GW.add{S:SS}{M:Int→Prop}{L:Int→Int→Prop}{len:Nat}(g:GW S M L len)(n:Int)(ps:List Int):GW (addS S n ps) (λm=>M m∨m=n∨m∈ps) (λp m=>L p m∨(m=n∧p∈ps)) (len+ps.length):=by
 obtain⟨w1,t1⟩:=g.w.get n
 have w2:WS {fk S n with np:=setF S.np n (S.np n+ps.length)}:=⟨w1.nd,w1.df⟩
 obtain⟨g0,g1,g2,g3,g4,g5,g6,g7,g8⟩:=xZ n ps _ w2
 refine⟨g0,λm=>?_,g3.trans g.rd,g4.trans g.ps,g5.trans g.fi,λm=>?_,λp m=>?_,λp=>?_⟩
 ·show(gK (addP n) _ ps).np m=_
  rw[g2]
  show setF S.np n (S.np n+ps.length) m=_
  unfold addS
  rw[g1]
  have:tot {fk S n with np:=setF S.np n (S.np n+ps.length)} m=tot S m:=t1 m
  rw[this]
  unfold setF
  by_cases c:m=n
  ·subst c;simp[g.np]
  ·simp[c,g.np]
 ·unfold addS
  rw[g6]
  show m∈(fk S n).nodes∨_↔_
  rw[←g.mem m]
  unfold fk
  simp only[]
  split
  ·rename_i h
   constructor
   ·rintro(h'|h')
    ·exact .inl h'
    ·exact .inr (.inr h')
   ·rintro(h'|rfl|h')
    ·exact .inl h'
    ·exact .inl h
    ·exact .inr h'
  ·simp[or_assoc]
 ·unfold addS
  rw[g7]
  show m∈S.succ p∨_↔_
  rw[g.edg]
 ·have:=g8 p
  have h2:(S.succ p).length≤len:=g.sz p
  unfold addS
  exact ae this (cB h2 _)
theorem y1(S:SS)(n:Int):tot S n=inc S.nodes S.succ [] n:=by
 unfold tot inc
 rw[iH.mpr (by simp)]
theorem gN{Z hp:Hp}{x:Addr}{S:SS}(o:kZ Z hp x S):Grow Z hp:=by obtain⟨dd,D,ia,la,R,o⟩:=o;exact o.gr
theorem iA{Z hp:Hp}{x:Addr}{S:SS}(o:kZ Z hp x S){j:Nat}(hj:j≠2∧j≠5∧j≠11∧j≠12):cw cT j hp (.ref x):=by obtain⟨dd,D,ia,la,R,o⟩:=o;exact o.inst hj
noncomputable def B5(h:Int→List Int)(js:List Int):List Int:=js.flatMap λl=>l::h l
noncomputable def v5(S:SS)(h:Int→List Int)(js:List Int):Prop:=GW S (λv=>v∈B5 h js) (λp n=>n∈js∧p∈h n) (js.map λl=>(h l).length).sum
theorem v5.nil(h:Int→List Int):v5 ⟨[],λz=>0,λz=>[],none,0,0⟩ h []:=by
 have g:=GW.nil
 exact⟨g.w,g.np,g.rd,g.ps,g.fi,λm=>by simp[B5],λp n=>by simp,λp=>by simp⟩
theorem v5.add{S:SS}{h:Int→List Int}{js:List Int}(g:v5 S h js)(n:Int):v5 (addS S n (h n)) h (js++[n]):=by
 have g':=GW.add g n (h n)
 refine⟨g'.w,g'.np,g'.rd,g'.ps,g'.fi,λm=>(g'.mem m).trans ?_,λp m=>(g'.edg p m).trans ?_,λp=>ae (g'.sz p) ?_⟩
 ·simp[B5]
 ·constructor
  ·rintro(⟨a,b⟩|⟨rfl,b⟩)
   ·exact⟨ci _ a,b⟩
   ·exact⟨by simp,b⟩
  ·rintro⟨a,b⟩
   rcases az.mp a with a|a
   ·exact .inl ⟨a,b⟩
   ·simp at a;subst a;exact .inr ⟨rfl,b⟩
 ·simp
noncomputable def grE(h:Int→List Int)(n:Int):Int×V:=(n,.lst ((h n).map .int))
section
variable{h:Int→List Int}{g:Addr}{ep:Nat}
theorem p9{Q:Fw→aZ→Hp→Prop}{Z hp0:Hp}{x:Addr}{es:List (Int×V)}(hg:Z g=some (.dict es ep))(h0:hp0 g=some (.dict es ep))(hz:∀n,(h n).length≤10):∀(ns js:List Int)(hp:Hp)(S:SS)(loc:aZ),js.length+ns.length≤5→kZ Z hp x S→v5 S h js→loc 0=some (.ref x)→
 (∀loc' hp' S',kZ Z hp' x S'→v5 S' h (js++ns)→Q .next loc' hp')→de (.vals true g) hp0 (ij ([1,4].map aG)) jN Q (pS (ns.map (grE h))) loc hp
 | [],js,hp,S,loc,_,o,w,_,q=>q loc hp S o (by rw[aN];exact w)
 |n::ns,js,hp,S,loc,hl,o,w,e0,q=>by
  refine CZ ?_
  unfold jN
  rw[aE]at hl
  have f0:upd (upd loc 1 (.int n)) 4 (.lst ((h n).map .int)) 0=some (.ref x):=(upd_ne (by decide)).trans ((upd_ne (by decide)).trans e0)
  have hs:=hz n
  have hn:S.nodes.length≤js.length*11:=by
   refine ae (iB _ _ w.w.nd λv hv=>(w.mem v).mp hv) ?_
   have h2:=kF (B:=11) (js.map λl=>(l::h l).length) λx hx=>by obtain⟨l,_,rfl⟩:=an.mp hx;exact aR (hz l)
   rw[ak]at h2
   rw[B5,List.length_flatMap];exact h2
  refine sq (rv f0 ⟨iA o (by decide),rv ((upd_ne (by decide)).trans us) (rv us ⟨_,rfl,by rw[ak];exact lim4 (ae hs (by decide)),nl ?_⟩)⟩)
  rw[aN]
  refine CB o w.rd (by omega) (λm=>?_) λhp' o'=>nx ⟨?_,?_⟩
  ·have h1:=w.sz m
   have h2:=kF (B:=10) (js.map λl=>(h l).length) λx hx=>by obtain⟨l,_,rfl⟩:=an.mp hx;exact hz l
   rw[ak]at h2;omega
  ·show hp' g=hp0 g
   rw[h0];exact gN o' _ _ hg
  ·refine p9 hg h0 hz ns (js++[n]) hp' _ _ (by rw[aw,b8];omega) o' (w.add n) f0 λloc' hp2 S' o2 w2=>q loc' hp2 S' o2 (by rw[bC]at w2;exact w2)
theorem vL{Q:V→Hp→Prop}{X:XA}{hp:Hp}(hz:∀n,(h n).length≤10){ns:List Int}(hl:ns.length≤5)(hg:hp g=some (.dict (ns.map (grE h)) ep))(q:∀x hp' S,hp x=ac→kZ hp hp' x S→v5 S h ns→Q (.ref x) hp'):wy cT jG [.ref g] Q X hp:=by
 intro x dd hx hd hne
 refine⟨[(0,.ref x),(10,.ref g)],rfl,?_⟩
 have e1:(upd (upd hp dd (.ns [])) x (.inst cT dd)) x=some (.inst cT dd):=by simp
 have e2:(upd (upd hp dd (.ns [])) x (.inst cT dd)) dd=some (.ns []):=by rw[upd_ne (aI hne)];simp
 have gr1:Grow hp (upd (upd hp dd (.ns [])) x (.inst cT dd)):=(Grow.new hd).upd hx
 generalize upd (upd hp dd (.ns [])) x (.inst cT dd)=hp1 at e1 e2 gr1
 simp[oX]
 intro D hD ep
 have hDx:x≠D:=ne_none e1 hD
 have hDd:dd≠D:=ne_none e2 hD
 have m1:∀o,(upd (upd hp1 D (.dict [] ep)) dd o) x=some (.inst cT dd):=λo=>by rw[upd_ne hne,upd_ne hDx];exact e1
 have m2:∀o,(upd (upd hp1 D (.dict [] ep)) dd o) dd=some o:=λo=>upd_same _ _ _
 have sA:∀(fs:List (Nat×V))(i:Nat)(v:V)(K:Hp→Prop),fs.length≤10→dU cT i (.ref x) v K (upd (upd hp1 D (.dict [] ep)) dd (.ns fs))=K (upd (upd hp1 D (.dict [] ep)) dd (.ns (ju fs i v))):=λfs i v K hl=>by rw[setA_ref (m1 _) (m2 _) (ae hl (by decide)),lH]
 have s0:∀(i:Nat)(v:V)(K:Hp→Prop),dU cT i (.ref x) v K (upd hp1 D (.dict [] ep))=K (upd (upd hp1 D (.dict [] ep)) dd (.ns (ju [] i v))):=λi v K=>setA_ref (by rw[upd_ne hDx];exact e1) (by rw[upd_ne hDd];exact e2) (by simp)
 simp[s0,sA,ju]
 have o1:kZ hp (upd (upd hp1 D (.dict [] ep)) dd (.ns [(2,.ref D),(5,.none),(11,.int 0),(12,.int 0)])) x ⟨[],λz=>0,λz=>[],none,0,0⟩:=by
  refine⟨dd,D,λz=>0,λz=>0,0,⟨m1 _,m2 _,⟨ep,?_⟩,by simp,by simp,by simp,by simp,by simp,by simp,by simp,by simp,?_,hx,hd,gr1.back hD,by simp,by simp,by simp⟩⟩
  ·rw[upd_ne (aI hDd)];simp
  ·exact(gr1.upd (gr1.back hD)).upd hd
 have hg2:=gN o1 _ _ hg
 refine rv rfl ⟨⟨_,_,_,rfl,hg2⟩,nl ⟨g,_,_,rfl,hg2,g,_,_,rfl,hg2,?_⟩⟩
 exact p9 hg hg2 hz ns [] _ _ _ (by rw[cm,aW];exact hl) o1 (v5.nil h) rfl λloc' hp' S' o2 w2=>q x hp' S' hx o2 w2
end
noncomputable def gE(st:List St)(n:Int):List Int:=(ct st n.toNat).map λs=>((s.1:Nat):Int)
noncomputable def nds:List Int:=[4,3,2,1,0]
noncomputable def Hn(st:List St)(n:Int):Nat:=hgt st 5 n.toNat
theorem sX(st:List St)(n:Int):(gE st n).length≤st.length:=by rw[gE,ak];exact tS _ _
theorem eE{n:Int}:n∈nds↔∃k:Nat,k<5∧n=(k:Nat):=by
 constructor
 ·intro h
  have:0≤n∧n<5:=by simp[nds]at h;omega
  exact⟨n.toNat,Ea this,DW this.1⟩
 ·rintro⟨k,hk,rfl⟩
  simp[nds];omega
section
variable{st:List St}(ok:kM st){S:SS}(w:v5 S (gE st) nds)
include ok
theorem t4{n p:Int}(h:p∈gE st n):∃k:Nat,p=(k:Nat)∧k<n.toNat∧∃s∈ct st n.toNat,s.1=k:=by
 obtain⟨s,hs,rfl⟩:=an.mp h
 exact⟨s.1,rfl,eS ok hs,s,hs,rfl⟩
theorem zd{v:Int}:v∈B5 (gE st) nds↔v∈nds:=by
 constructor
 ·intro h
  obtain⟨l,hl,h⟩:=b0.mp h
  rcases ah.mp h with rfl|h
  ·exact hl
  ·obtain⟨k,rfl,hk,_⟩:=t4 ok h
   obtain⟨j,hj,rfl⟩:=eE.mp hl
   exact eE.mpr ⟨k,ew hk hj,rfl⟩
 ·exact λh=>b0.mpr ⟨v,h,.head _⟩
include w
theorem lG{v:Int}:v∈S.nodes↔v∈nds:=(w.mem v).trans (zd ok)
theorem B8:GB S (λz=>False) (λv=>(4 - v).toNat):=by
 refine⟨λv z s hs=>(lG ok w).mpr ((w.edg v s).mp hs).1,λz z h=>h.elim,λv z z s hs=>⟨id,?_⟩⟩
 obtain⟨h1,h2⟩:=(w.edg v s).mp hs
 obtain⟨k,rfl,hk,_⟩:=t4 ok h2
 obtain⟨j,hj,rfl⟩:=eE.mp h1
 show(4 - (j:Int)).toNat<(4 - (k:Int)).toNat
 have:k<j:=hk
 omega
theorem Cn:S.nodes.length≤5:=iB _ nds w.w.nd λv hv=>(lG ok w).mp hv
variable{order r:List Int}{S':SS}{k:Nat}
theorem gp(ki:KI S.nodes S.succ order [] r S')(ho:∀n∈nds,n∈order↔Hn st n<k){n:Int}(hn:n∈nds):n∈r↔Hn st n=k:=by
 have n5:n.toNat<5:=by obtain⟨j,hj,rfl⟩:=eE.mp hn;exact hj
 have z:n∉order→(n∈r↔∀p∈gE st n,p∈order):=λh=>by
  have:=ki.zero n ((lG ok w).mpr hn) h
  rw[aX,inc_zero]at this
  refine this.trans ⟨λq p hp=>?_,λq p y hs=>q p ((w.edg p n).mp hs).2⟩
  obtain⟨j,rfl,hj,_⟩:=t4 ok hp
  exact q _ ((lG ok w).mpr (eE.mpr ⟨j,ew hj n5,rfl⟩)) ((w.edg _ n).mpr ⟨hn,hp⟩)
 have hp:∀p∈gE st n,p∈nds:=λp hp=>by
  obtain⟨j,rfl,hj,_⟩:=t4 ok hp
  exact eE.mpr ⟨j,ew hj n5,rfl⟩
 have le:(∀p∈gE st n,p∈order)↔Hn st n≤k:=by
  refine Iff.trans ?_ (wP ok n5).symm
  constructor
  ·intro q s hs
   have hm:((s.1:Nat):Int)∈gE st n:=an.mpr ⟨s,hs,rfl⟩
   exact(ho _ (hp _ hm)).mp (q _ hm)
  ·intro q p hpm
   obtain⟨s,hs,rfl⟩:=an.mp hpm
   exact(ho _ (hp _ hpm)).mpr (q s hs)
 constructor
 ·intro hr
  have no:n∉order:=λh=>by
   have:=ki.dis
   rw[bR]at this
   exact this.2.2 n h n hr rfl
  have h1:=le.mp ((z no).mp hr)
  have h2:¬Hn st n<k:=λh=>no ((ho n hn).mpr h)
  omega
 ·intro h
  have no:n∉order:=λc=>by have:=(ho n hn).mp c;omega
  exact(z no).mpr (le.mpr (aT h))
theorem hP(ki:KI S.nodes S.succ order [] r S'){n:Int}(hn:n∈r):n∈nds:=(lG ok w).mp (ki.sub n (by simp[hn]))
omit ok w in
theorem rK{nodes:List Int}{succ:Int→List Int}(ki:KI nodes succ order [] r S'):r.Nodup:=(bR.mp (bR.mp ki.dis).2.1).2.1
end
noncomputable def kO(st:List St)(k:Nat):List Int:=((aV 5).filter λv=>decide (hgt st 5 v=k)).map λ(v:Nat)=>(v:Int)
theorem ye{st:List St}{k:Nat}{n:Int}:n∈kO st k↔n∈nds∧Hn st n=k:=by
 rw[kO,an,eE]
 constructor
 ·rintro⟨v,hv,rfl⟩
  have:=bX.mp hv
  exact⟨⟨v,cu.mp this.1,rfl⟩,of_decide_eq_true this.2⟩
 ·rintro⟨⟨v,hv,rfl⟩,h⟩
  exact⟨v,bX.mpr ⟨cu.mpr hv,decide_eq_true h⟩,rfl⟩
theorem uA(st:List St)(k:Nat):(kO st k).Pairwise (·< ·):=
 qn _ (λa b h=>iL.mpr h) (List.pairwise_lt_range.filter _)
section
variable{st:List St}(ok:kM st){S:SS}(w:v5 S (gE st) nds){order r:List Int}{S':SS}{k:Nat}
include ok w
theorem tB(ki:KI S.nodes S.succ order [] r S')(ho:∀n∈nds,n∈order↔Hn st n<k):fU r=kO st k:=by
 refine(gX ?_ ((uA st k).imp λh=>nu h)).symm
 refine(List.perm_ext_iff_of_nodup ((uA st k).imp λh=>Int.ne_of_lt h) (rK ki)).mpr λn=>?_
 rw[ye]
 exact⟨λh=>(gp ok w ki ho h.1).mpr h.2,λh=>⟨hP ok w ki h,(gp ok w ki ho (hP ok w ki h)).mp h⟩⟩
theorem rZ(hS:∀p,(S.succ p).length≤100):∀(W order r:List Int)(S':SS),KI S.nodes S.succ order W r S'→∃z,KI S.nodes S.succ (order++W) [] z (W.foldl lF S')∧oq S' W
 | [],order,r,S',ki=>⟨r,by rw[aN];exact ki,trivial⟩
 |c::W,order,r,S',ki=>by
  have cl:∀n∈S.nodes,∀s∈S.succ n,s∈S.nodes:=(B8 ok w).cls
  obtain⟨h1,h2,z,k2⟩:=ki.done w.w.nd (c:=c) (.head _) cl
  rw[List.erase_cons_head]at k2
  obtain⟨z',k3,d⟩:=rZ hS W _ _ _ k2
  refine⟨z',by rw[bC]at k3;exact k3,by rw[ki.hn];exact h2,h1,λs hs=>by rw[ki.hn];rw[ki.hs]at hs;exact cl c h2 s hs,⟨r,ki.rd,?_⟩,d⟩
  have rl:=iB r S.nodes (bR.mp (bR.mp ki.dis).2.1).2.1 λn hn=>ki.sub n (by simp[hn])
  have:=Cn ok w
  have:=hS c
  rw[ki.hs];omega
theorem xv(hS:∀p,(S.succ p).length≤100)(ki:KI S.nodes S.succ order [] r S')(ho:∀n∈nds,n∈order↔Hn st n<k):
 ∃z,KI S.nodes S.succ (order++r) [] z (r.foldl lF (mv S' r))∧oq (mv S' r) r∧∀n∈nds,n∈order++r↔Hn st n<k+1:=by
 have k1:=ki.out
 rw[aX]at k1
 obtain⟨z,k2,d⟩:=rZ ok w hS r order [] _ k1
 refine⟨z,k2,d,λn hn=>?_⟩
 rw[az,ho n hn,gp ok w ki ho hn];omega
end
theorem z7{a:Addr}{es:List (Int×V)}{ep:Nat}{k:Int}{v:V}{Q:Hp→Prop}{hp:Hp}(h:hp a=some (.dict es ep))(hl:es.length≤lim)(q:∀ep',Q (upd hp a (.dict (je es k v) ep'))):rD (.ref a) (.int k) v Q hp:=
 ⟨a,k,rfl,rfl,by rw[h];exact⟨hl,q⟩⟩
theorem yb(es:List (Int×V))(k:Int)(v:V):(je es k v).length≤es.length+1:=by
 unfold je
 split
 ·rw[ak];omega
 ·rw[aw];exact bx _
theorem eb(k k':Int)(v:V)(es:List (Int×V)):eAt ((k,v)::es) k'=if k=k' then some v else eAt es k':=by
 unfold eAt
 rw[dO]
 by_cases c:k=k'
 ·rw[if_pos c];simp[c]
 ·rw[if_neg c];simp[c]
theorem kh{k k':Int}{v:V}(h:k'≠k):∀es:List (Int×V),eAt (es.map λe=>if e.1=k then(e.1,v)else e) k'=eAt es k'
 | []=>rfl
 |(i,u)::es=>by
  rw[ao]
  by_cases c:i=k
  ·rw[if_pos c,eb,eb,kh h es]
   have:¬i=k':=λe=>h (e.symm.trans c)
   rw[if_neg this,if_neg this]
  ·rw[if_neg c,eb,eb,kh h es]
theorem ux(k' k:Int)(v:V):∀es:List (Int×V),eAt (es++[(k,v)]) k'=match eAt es k' with|some u=>some u|none=>if k=k' then some v else ac
 | []=>by rw[aX,eb];rfl
 |(i,u)::es=>by
  rw[cM,eb,eb,ux k' k v es]
  split<;>rfl
theorem vE{es:List (Int×V)}{k k':Int}{v:V}(h:k'≠k):eAt (je es k v) k'=eAt es k':=by
 unfold je
 split
 ·exact kh h es
 ·rw[ux,if_neg λe=>h e.symm]
  cases eAt es k'<;>rfl
theorem eAt_same{k:Int}{v:V}:∀es:List (Int×V),eAt (je es k v) k=some v
 | []=>by show eAt [(k,v)] k=_;rw[eb,if_pos rfl]
 |(i,u)::es=>by
  unfold je
  rw[jo]
  by_cases c:i=k
  ·rw[decide_eq_true c,Bool.true_or,if_pos rfl,ao,if_pos c,eb,if_pos c]
  ·have ih:=eAt_same (k:=k) (v:=v) es
   unfold je at ih
   rw[decide_eq_false c,Bz]
   split
   ·rename_i h
    rw[if_pos h]at ih
    rw[ao,if_neg c,eb,if_neg c];exact ih
   ·rename_i h
    rw[if_neg h]at ih
    rw[cM,eb,if_neg c];exact ih
theorem ya{es:List (Int×V)}{k:Int}{v:V}(h:∀e∈es,e.1≠k):je es k v=es++[(k,v)]:=by
 unfold je
 rw[if_neg]
 intro c
 obtain⟨e,he,z⟩:=b3.mp c
 exact h e he (of_decide_eq_true z)
theorem wZ{h:Int→List Int}{n:Int}:∀ns:List Int,n∈ns→eAt (ns.map (grE h)) n=some (.lst ((h n).map .int))
 |m::ns,hm=>by
  rw[ao]
  show eAt ((m,V.lst ((h m).map .int))::_) n=_
  rw[eb]
  by_cases c:m=n
  ·rw[if_pos c,c]
  ·rw[if_neg c];exact wZ ns ((ah.mp hm).resolve_left λe=>c e.symm)
theorem Cf{Q:V→Hp→Prop}{X:XA}{hp:Hp}{a:List Nat}{n:Nat}(h:okA n a)(hn:n≤4)(q:∀hp',Grow hp hp'→Q (wR a) hp'):i5 cW bw [.str (encR a)] Q X hp:=by
 refine AV (λc hc=>by rcases encR_mem hc with rfl|rfl<;>decide) (ae (enc_len h hn) (by decide)) λhp' g=>?_
 have:=oy (a,0)
 rw[hd,show ar 0 32=([]:List Nat)from rfl,aN]at this
 rw[this];exact q hp' g
theorem Ei{Q:V→Hp→Prop}{X:XA}{hp:Hp}(q:∀hp',Grow hp hp'→Q (wR []) hp'):i5 cW bw [.str []] Q X hp:=by
 have e:([]:List Nat)=encR []:=rfl
 rw[e]
 exact Cf (n:=0) ⟨λz h=>(nomatch h),bx _⟩ (by decide) q
noncomputable abbrev l3(loc:aZ)(s:St):aZ:=upd (upd (upd loc 52 (.int (s.1:Nat))) 53 (.int (s.2.1:Nat))) 54 (.str (ig s.2.2))
theorem Ag{loc:aZ}{s:St}:l3 loc s 52=some (.int (s.1:Nat)):=(upd_ne (by decide)).trans ((upd_ne (by decide)).trans us)
theorem Af{loc:aZ}{s:St}:l3 loc s 53=some (.int (s.2.1:Nat)):=(upd_ne (by decide)).trans us
theorem Cu{loc:aZ}{s:St}:l3 loc s 54=some (.str (ig s.2.2)):=us
theorem AK{loc:aZ}{s:St}{i:Nat}(h:i≠52∧i≠53∧i≠54):l3 loc s i=loc i:=(upd_ne h.2.2).trans ((upd_ne h.2.1).trans (upd_ne h.1))
section
variable{st:List St}(hl:st.length≤7)
include hl
theorem oQ{Q:Fw→aZ→Hp→Prop}{v:V}{hp0 hpI:Hp}{g:Addr}(hv:∀h h',same v h h'):∀(ns done:List Int)(ep:Nat)(loc:aZ),(∀n∈ns,0≤n)→(done++ns).Nodup→done.length+ns.length≤5→loc 51=some (.lst (st.map stV))→loc 10=some (.ref g)→
 (∀loc' ep',(∀i,i≠1→loc' i=loc i)→Q .next loc' (upd hpI g (.dict ((done++ns).map (grE (gE st))) ep')))→de v hp0 (aG 1) jM Q (ns.map .int) loc (upd hpI g (.dict (done.map (grE (gE st))) ep))
 | [],done,ep,loc,_,_,_,_,_,q=>by
   have:=q loc ep λz z=>rfl
   rw[aN]at this;exact this
 |n::ns,done,ep,loc,h0,nd,hz,e51,e10,q=>by
  refine gv ?_
  unfold jM
  rw[aE]at hz
  have f51:upd loc 1 (.int n) 51=some (.lst (st.map stV)):=(upd_ne (by decide)).trans e51
  have f10:upd loc 1 (.int n) 10=some (.ref g):=(upd_ne (by decide)).trans e10
  have k1:keepL [1] (upd loc 1 (.int n)) 1=some (.int n):=kp us
  have hn:=DW (h0 n (.head _))
  have flat:(st.flatMap λs=>if decide (s.2.1=n.toNat)then [V.int (s.1:Nat)]else [])=(gE st n).map .int:=by
   rw[nQ (λs:St=>decide (s.2.1=n.toNat)),jf,gE,aL];rfl
  refine sq (rv f51 ⟨_,rfl,?_⟩)
  refine kC (G:=Eq) (λz=>rfl) (λa b=>a.trans b) stV (λs=>if decide (s.2.1=n.toNat)then [V.int (s.1:Nat)]else []) st [] _ (by rw[flat,ak,cm,aW];exact ae (ae (sX st n) hl) (by decide)) (λz z=>trivial) (λs hs hp1 e1 acc hacc R hR=>?_) λhp2 e2=>?_
  ·subst e1
   refine CY (rv Af (rv ((AK (by decide)).trans k1) (eq_int (xb ?_))))
   by_cases c:s.2.1=n.toNat
   ·rw[if_pos (decide_eq_true c)]at hacc hR
    exact iT (decide_eq_true (by rw[hn,c])) ⟨lim4 (by simp at hacc;omega),rv Ag (hR _ rfl)⟩
   ·rw[if_neg (by simpa using c),aN]at hR
    refine iF (λh=>c ?_) (hR _ rfl)
    have:=of_decide_eq_true h
    rw[hn]at this;exact fe this
  ·subst e2
   rw[aX,flat]
   refine rv f10 (rv us (z7 us (by rw[ak];exact lim4 (by omega)) λep'=>nx ⟨hv _ _,?_⟩))
   have e:je (done.map (grE (gE st))) n (.lst ((gE st n).map .int))=(done++[n]).map (grE (gE st)):=by
    rw[ya,bQ]
    ·rfl
    ·intro e he c
     obtain⟨m,hm,rfl⟩:=an.mp he
     rw[bR]at nd
     exact nd.2.2 m hm n (.head _) c
   rw[lH,e]
   refine oQ hv ns (done++[n]) ep' _ (λm hm=>h0 m (.tail _ hm)) (by rw[bC];exact nd) (by rw[aw,b8];omega) f51 f10 λloc' ep2 h=>?_
   have:=q loc' ep2 λi hi=>(h i hi).trans (upd_ne hi)
   rw[bC];exact this
end
section
variable{st:List St}(ok:kM st)(hl:st.length≤7)(hB:∀v≤4,2 ^ cV st v≤32)
include ok hl hB
theorem Ao{v:Nat}(hv:v≤4):(stepW st (kpt st 5) v).length≤32:=ae (mG ok λu z=>qJ ok 5 u) (hB v hv)
theorem Ek{v:Nat}{a:List Nat}(ha:a∈stepW st (kpt st 5) v):okA v a:=nR ok (P:=okA) (λv=>⟨λz h=>(nomatch h),aD _⟩) (j8 ok) (λu z b hb=>kpt_ok ok hb) a ha
theorem tO{K:List V→Hp→Prop}{loc:aZ}{hp:Hp}{kd:Addr}{es:List (Int×V)}{ep v:Nat}(hv:v<5)(hk:hp kd=some (.dict es ep))(ke:∀s∈ct st v,eAt es (s.1:Nat)=some (.lst ((kpt st 5 s.1).map wR)))(e1:loc 1=some (.int (v:Nat)))(e57:loc 57=some (.ref kd))
 (q:∀hp',Grow hp hp'→K ((fR (kpt st 5) (ct st v)).map wR) hp'):
 mj (.lst (st.map stV)) hp (ij ([52,53,54].map aG)) (cF nZ (ap 53) (ap 1)) (yN (bK dJ (ap 57) (ap 52)) (aG 46) fNone (eM (aS (i5 cW bw) (av (bK d9 (bU (bn cW 26) (ap 46)) (ap 54)) aF)))) K (st.map stV) [] loc hp:=by
 have v4:v≤4:=aP hv
 have flat:(st.flatMap λs=>if decide (s.2.1=v)then((kpt st 5 s.1).map (·++[s.2.2])).map wR else [])=(fR (kpt st 5) (ct st v)).map wR:=by
  rw[nQ (λs:St=>decide (s.2.1=v))]
  unfold fR
  rw[nV];rfl
 have len:(fR (kpt st 5) (ct st v)).length≤32:=by
  by_cases c:ct st v=[]
  ·rw[c];exact aD _
  ·have:=Ao ok hl hB v4
   unfold stepW at this
   rw[if_neg c]at this;exact this
 refine kC (G:=Grow) Grow.refl Grow.trans stV (λs=>if decide (s.2.1=v)then((kpt st 5 s.1).map (·++[s.2.2])).map wR else []) st [] hp (by rw[flat,ak,cm,aW];exact ae len (by decide)) (λy y=>trivial) (λs hs hp1 g1 acc hacc R hR=>?_) λhp2 g2=>by
  rw[aX,flat];exact q hp2 g2
 refine CY (rv Af (rv ((AK (by decide)).trans e1) (eq_int (xb ?_))))
 by_cases c:s.2.1=v
 ·rw[if_pos (decide_eq_true c)]at hacc hR
  have hsi:s∈ct st v:=oB.mpr ⟨hs,c⟩
  refine iT (decide_eq_true (congrArg _ c)) (rv ((AK (by decide)).trans e57) (rv Ag (BC (g1 _ _ hk) (ke s hsi) ⟨_,rfl,?_⟩)))
  rw[ak,ak]at hacc
  refine kC (G:=Grow) Grow.refl Grow.trans wR (λa=>[wR (a++[s.2.2])]) (kpt st 5 s.1) acc hp1 (by rw[jf,ak];exact hacc) (λy y=>trivial) (λa ha hp3 g3 acc' ha' R' hR'=>?_) λhp3 g3=>?_
  ·have oa:=kpt_ok ok ha
   have h4:s.1≤4:=dx (aA (eS ok hsi) v4)
   have la:=enc_len oa h4
   have lr:(ig s.2.2).length≤4:=by rw[ig,aw,cJ];exact aR (ok s hs).2.2
   refine gv (E3 ⟨lim4 (by simp at ha';omega),rv us ⟨rfl,_,rfl,rfl,rv ((upd_ne (by decide)).trans Cu) ⟨lim4 (by omega),nl ?_⟩⟩⟩)
   rw[←oS]
   exact Cf (j8 ok s hs a oa) (ok s hs).2.1 hR'
  ·have:=hR _ g3
   rw[aL]at this
   rw[jf];exact this
 ·rw[if_neg (by simpa using c),aN]at hR
  exact iF (by simpa using λz=>c (fe z)) (hR _ (Grow.refl _))
theorem xQ{v:Nat}(hv:v<5):tW (stepW st (kpt st 5) v) [] (stepW st (kpt st 5) v)=kpt st 5 v:=(Bd ok (n:=6) (m:=5) (gA hv) hv:_)
theorem xN{K:V→Hp→Prop}{X:XA}{loc:aZ}{hp:Hp}{g:Addr}{epg v:Nat}(hv:v<5)(hg:hp g=some (.dict (nds.map (grE (gE st))) epg))(e10:loc 10=some (.ref g))(e1:loc 1=some (.int (v:Nat)))(e44:loc 44=some (.lst ((fR (kpt st 5) (ct st v)).map wR)))
 (q:∀hp',Grow hp hp'→K (.lst ((stepW st (kpt st 5) v).map wR)) hp'):
 uV (cF wk (bK dJ (ap 10) (ap 1)) (i3 aF)) (ap 44) (i3 (av (aS (i5 cW bw) (av (aJ (.str [])) aF)) aF)) K X loc hp:=by
 have hem:((gE st (v:Nat)).map V.int).isEmpty=true↔ct st v=[]:=by
  rw[gE,show((v:Nat):Int).toNat=v from rfl];simp
 refine rv e10 (rv e1 (BC hg (wZ nds (eE.mpr ⟨v,hv,rfl⟩)) (nl ⟨aD _,_,rfl,rfl,xb ?_⟩)))
 unfold stepW at q
 by_cases c:ct st v=[]
 ·rw[if_pos c]at q
  refine iF (by rw[hem.mpr c];exact aH) ?_
  rw[qA,cr,eG,cr,e9,ek]
  refine Ei λhp2 g2=>?_
  rw[ek]
  exact⟨bi rfl,q hp2 g2⟩
 ·rw[if_neg c]at q
  exact iT (by rw[cE,yx];exact λh=>c (hem.mp h)) (rv e44 (q hp (Grow.refl _)))
theorem pZ{Q:Fw→aZ→Hp→Prop}{u:V}{hp0 hpI:Hp}{x g kd:Addr}{epg k:Nat}{S:SS}(hu:∀h h',same u h h')(hgk:g≠kd):∀(ns done:List Int)(Z hp:Hp)(es:List (Int×V))(ep:Nat)(loc:aZ),(∀n∈ns,n∈nds∧Hn st n=k)→kZ Z hp x S→Grow hpI Z→hpI kd=ac→Z g=some (.dict (nds.map (grE (gE st))) epg)→Z kd=some (.dict es ep)→(∀n∈nds,(Hn st n<k∨n∈done)→eAt es n=some (.lst ((kpt st 5 n.toNat).map wR)))→es.length+ns.length≤1000→
 loc 51=some (.lst (st.map stV))→loc 10=some (.ref g)→loc 57=some (.ref kd)→
 (∀loc' Z' hp' es' ep',(∀i,i≠1→i≠44→loc' i=loc i)→kZ Z' hp' x S→Grow hpI Z'→(∀a,a≠kd→Z' a=Z a)→Z' kd=some (.dict es' ep')→(∀n∈nds,(Hn st n<k∨n∈done++ns)→eAt es' n=some (.lst ((kpt st 5 n.toNat).map wR)))→es'.length≤es.length+ns.length→Q .next loc' hp')→
 de u hp0 (aG 1) jL Q (ns.map .int) loc hp
 | [],done,Z,hp,es,ep,loc,_,o,gr,_,zg,zk,ke,_,_,_,_,q=>q loc Z hp es ep (λz z z=>rfl) o gr (λz z=>rfl) zk (by rw[aN];exact ke) (bx _)
 |n::ns,done,Z,hp,es,ep,loc,hn,o,gr,hkn,zg,zk,ke,hes,e51,e10,e57,q=>by
  refine gv ?_
  unfold jL
  rw[aE]at hes
  obtain⟨⟨v,hv,rfl⟩,hk⟩:=(⟨eE.mp (hn n (.head _)).1,(hn n (.head _)).2⟩:_∧_)
  have v4:v≤4:=aP hv
  have tv:((v:Nat):Int).toNat=v:=rfl
  have f51:upd loc 1 (.int (v:Nat)) 51=some (.lst (st.map stV)):=(upd_ne (by decide)).trans e51
  have f10:upd loc 1 (.int (v:Nat)) 10=some (.ref g):=(upd_ne (by decide)).trans e10
  have f57:upd loc 1 (.int (v:Nat)) 57=some (.ref kd):=(upd_ne (by decide)).trans e57
  have hpk:=gN o _ _ zk
  refine sq (rv f51 ⟨_,rfl,tO ok hl hB hv hpk (λs hs=>?_) (kp us) (kp f57) λhp1 g1=>?_⟩)
  ·have l:=eS ok hs
   refine ke (s.1:Nat) (eE.mpr ⟨s.1,ew l hv,rfl⟩) (.inl ?_)
   exact(wP ok hv).mp (aT hk) s hs
  refine gv (nsq ?_)
  have o1:=o.grow g1
  have hg1:=gN o1 _ _ zg
  have hk1:=gN o1 _ _ zk
  have c44:upd (upd loc 1 (.int (v:Nat))) 44 (.lst ((fR (kpt st 5) (ct st v)).map wR)) 44=some (.lst ((fR (kpt st 5) (ct st v)).map wR)):=us
  have c1:upd (upd loc 1 (.int (v:Nat))) 44 (.lst ((fR (kpt st 5) (ct st v)).map wR)) 1=some (.int (v:Nat)):=(upd_ne (by decide)).trans us
  have c10:upd (upd loc 1 (.int (v:Nat))) 44 (.lst ((fR (kpt st 5) (ct st v)).map wR)) 10=some (.ref g):=(upd_ne (by decide)).trans f10
  have c51:upd (upd loc 1 (.int (v:Nat))) 44 (.lst ((fR (kpt st 5) (ct st v)).map wR)) 51=some (.lst (st.map stV)):=(upd_ne (by decide)).trans f51
  have c57:upd (upd loc 1 (.int (v:Nat))) 44 (.lst ((fR (kpt st 5) (ct st v)).map wR)) 57=some (.ref kd):=(upd_ne (by decide)).trans f57
  have co:∀i,i≠1→i≠44→upd (upd loc 1 (.int (v:Nat))) 44 (.lst ((fR (kpt st 5) (ct st v)).map wR)) i=loc i:=λi h1 h2=>(upd_ne h2).trans (upd_ne h1)
  generalize upd (upd loc 1 (.int (v:Nat))) 44 (.lst ((fR (kpt st 5) (ct st v)).map wR))=l1 at*
  rw[gO,eG,cr]
  refine xN ok hl hB hv hg1 c10 c1 c44 λhp2 g2=>?_
  refine nl (tR v4 (λa ha=>Ek ok hl hB ha) (ae (Ao ok hl hB v4) (by decide)) ?_)
  rw[xQ ok hl hB hv]
  have o2:=o1.grow g2
  have hk2:=gN o2 _ _ zk
  refine rv c57 (rv c1 (z7 hk2 (lim4 (by omega)) λep'=>nx ⟨hu _ _,?_⟩))
  have o3:=o2.other (g:=kd) (o:=.dict (je es (v:Nat) (.lst ((kpt st 5 v).map wR))) ep') (.inr ⟨_,zk⟩)
  have sl:=yb es (v:Nat) (.lst ((kpt st 5 v).map wR))
  refine pZ hu hgk ns (done++[((v:Nat):Int)]) _ _ _ ep' l1 (λm hm=>hn m (.tail _ hm)) o3 (gr.upd hkn) hkn ((upd_ne hgk).trans zg) us (λm hm h=>?_) (by omega) c51 c10 c57 λloc' Z' hp' es' ep2 h1 h2 h3 h4 h5 h6 h7=>?_
  ·by_cases c:m=(v:Nat)
   ·rw[c,eAt_same];rfl
   ·rw[vE c]
    refine ke m hm (h.imp_right λh=>?_)
    exact(az.mp h).resolve_right λh=>c (bS.mp h)
  ·refine q loc' Z' hp' es' ep2 (λi a b=>(h1 i a b).trans (co i a b)) h2 h3 (λa ha=>(h4 a ha).trans (upd_ne ha)) h5 ?_ (by rw[aE];omega)
   rw[bC]at h6;exact h6
end
noncomputable def rT(r:List Int):V:=.tup (r.map .int)
structure BF(st:List St)(rs:List (List Int))(k:Nat):Prop where
 len:rs.length=k
 srt:rs.map fU=(aV k).map (kO st)
 few:∀r∈rs,r.length≤5
theorem BF.snoc{st:List St}{rs:List (List Int)}{k:Nat}{r:List Int}(h:BF st rs k)(hs:fU r=kO st k)(hr:r.length≤5):BF st (rs++[r]) (k+1):=
 ⟨by rw[aw,h.len];rfl,by rw[bQ,h.srt,zV,bQ,ao,hs];rfl,λx hx=>(az.mp hx).elim (h.few x) λhx=>by rw[bS.mp hx];exact hr⟩
noncomputable def nO(st:List St)(es:List (Int×V)):Prop:=∀n∈nds,eAt es n=some (.lst ((kpt st 5 n.toNat).map wR))
section
variable{st:List St}(ok:kM st)(hl:st.length≤7)(hB:∀v≤4,2 ^ cV st v≤32)
include ok hl hB
theorem m0{Q:Fw→aZ→Hp→Prop}{x g kd l:Addr}{hpI:Hp}{epg T:Nat}{S:SS}(w:v5 S (gE st) nds)(hS:∀p,(S.succ p).length≤100)(hT:∀v<5,hgt st 5 v≤T)(hT2:∃v,v<5∧hgt st 5 v=T)(hT4:T≤4)(hgk:g≠kd)(hgl:g≠l)(hkl:kd≠l)(hk0:hpI kd=ac)(hl0:hpI l=ac):
 ∀(m k:Nat)(order r:List Int)(Z hp:Hp)(S':SS)(es:List (Int×V))(ep:Nat)(rs:List (List Int))(loc:aZ)(fuel:Nat),k+m=T+1→m<fuel→KI S.nodes S.succ order [] r S'→(∀n∈nds,n∈order↔Hn st n<k)→kZ Z hp x S'→Grow hpI Z→Z g=some (.dict (nds.map (grE (gE st))) epg)→Z kd=some (.dict es ep)→Z l=some (.lst (rs.map rT))→
 (∀n∈nds,Hn st n<k→eAt es n=some (.lst ((kpt st 5 n.toNat).map wR)))→es.length≤5*k→BF st rs k→loc 51=some (.lst (st.map stV))→loc 10=some (.ref g)→loc 57=some (.ref kd)→loc 58=some (.ref l)→loc 55=some (.ref x)→
 (∀loc' Z' hp' S2 es' ep' rs' order',loc' 57=some (.ref kd)→loc' 58=some (.ref l)→loc' 55=some (.ref x)→kZ Z' hp' x S2→KI S.nodes S.succ order' [] [] S2→Grow hpI Z'→Z' kd=some (.dict es' ep')→Z' l=some (.lst (rs'.map rT))→nO st es'→BF st rs' (T+1)→Q .next loc' hp')→
 kT (cF AE (b7 (cw cT 59) dS (ap 55) aF) (aJ (.bool true))) jK aB Q fuel loc hp
 |0,k,order,r,Z,hp,S',es,ep,rs,loc,fuel,hk,hf,ki,ho,o,gr,zg,zk,zl,ke,el,rd,e51,e10,e57,e58,e55,q=>by
  obtain⟨fuel,rfl⟩:=ef (gz hf)
  have hr:r=[]:=List.eq_nil_iff_forall_not_mem.mpr λn hn=>by
   have h1:=hP ok w ki hn
   have h2:=(gp ok w ki ho h1).mp hn
   obtain⟨v,hv,rfl⟩:=eE.mp h1
   have:=hT v hv
   have h3:hgt st 5 v=k:=h2
   omega
  subst hr
  rw[sP]
  refine rv e55 ⟨iA o (by decide),nl (oG o ki.rd (aD _) (cn ⟨_,my,xb ?_⟩))⟩
  have act:(decide (S'.fin<S'.pass)|| !([]:List Int).isEmpty)=false:=by rw[ki.ps,ki.fi];simp
  rw[act]
  refine iF (by decide) ?_
  exact q loc Z hp S' es ep rs order e57 e58 e55 o ki gr zk zl (λn hn=>ke n hn (by
   obtain⟨v,hv,rfl⟩:=eE.mp hn
   have:hgt st 5 v≤T:=hT v hv
   show hgt st 5 v<k
   omega)) (by rw[←hk];exact rd)
 |m+1,k,order,r,Z,hp,S',es,ep,rs,loc,fuel,hk,hf,ki,ho,o,gr,zg,zk,zl,ke,el,rd,e51,e10,e57,e58,e55,q=>by
  obtain⟨fuel,rfl⟩:=ef (gz (bc (aD _) hf))
  have hr:r≠ []:=by
   obtain⟨v,hv,e⟩:=hT2
   obtain⟨u,hu,e2⟩:=uj ok (T - k) k v hv (by omega)
   exact mf ((gp ok w ki ho (eE.mpr ⟨u,hu,rfl⟩)).mpr e2)
  have rl:r.length≤5:=iB r nds (rK ki) λn hn=>hP ok w ki hn
  rw[sP]
  refine rv e55 ⟨iA o (by decide),nl (oG o ki.rd (ae rl (by decide)) (cn ⟨_,my,xb ?_⟩))⟩
  have act:(decide (S'.fin<S'.pass)|| !r.isEmpty)=true:=by
   cases r with
   |nil=>exact absurd rfl hr
   |cons a t=>simp
  rw[act]
  refine iT (by decide) ?_
  unfold jK
  have hsn:∀n∈r,n∈S'.nodes:=λn hn=>by rw[ki.hn];exact ki.sub n (by simp[hn])
  refine sq (rv e55 ⟨iA o (by decide),nl (zP o ki.rd hsn (ae rl (by decide)) λhp1 o1=>gv (nsq ?_))⟩)
  have f61:upd loc 61 (.tup (r.map .int)) 61=some (.tup (r.map .int)):=us
  have f51:upd loc 61 (.tup (r.map .int)) 51=some (.lst (st.map stV)):=(upd_ne (by decide)).trans e51
  have f10:upd loc 61 (.tup (r.map .int)) 10=some (.ref g):=(upd_ne (by decide)).trans e10
  have f57:upd loc 61 (.tup (r.map .int)) 57=some (.ref kd):=(upd_ne (by decide)).trans e57
  have f58:upd loc 61 (.tup (r.map .int)) 58=some (.ref l):=(upd_ne (by decide)).trans e58
  have f55:upd loc 61 (.tup (r.map .int)) 55=some (.ref x):=(upd_ne (by decide)).trans e55
  generalize upd loc 61 (.tup (r.map .int))=l1 at*
  have hl1:=gN o1 _ _ zl
  refine rv f58 ⟨isLst_ref hl1,rv f61 (nl (gF hl1 ?_ (nsq ?_)))⟩
  ·rw[ak,rd.len];exact lim4 (by omega)
  have o2:=o1.other (g:=l) (o:=.lst (rs.map rT++[V.tup (r.map .int)])) (.inr ⟨_,zl⟩)
  obtain⟨z,k2,dk,ho2⟩:=xv ok w hS ki ho
  refine rv f61 ⟨_,rfl,?_⟩
  refine pZ ok hl hB (hpI:=hpI) (epg:=epg) (k:=k) (by simp) hgk r [] _ _ es ep l1 (λn hn=>⟨hP ok w ki hn,(gp ok w ki ho (hP ok w ki hn)).mp hn⟩) o2 (gr.upd hl0) hk0 ((upd_ne hgl).trans zg) ((upd_ne hkl).trans zk) (λn hn h=>ke n hn (h.resolve_right nofun)) (by omega) f51 f10 f57 λl2 Z2 hp2 es2 ep2 h1 o3 gr2 hz zk2 ke2 el2=>nsq ?_
  have a61:=(h1 61 (by decide) (by decide)).trans f61
  have a55:=(h1 55 (by decide) (by decide)).trans f55
  have a58:=(h1 58 (by decide) (by decide)).trans f58
  have a57:=(h1 57 (by decide) (by decide)).trans f57
  have a10:=(h1 10 (by decide) (by decide)).trans f10
  have a51:=(h1 51 (by decide) (by decide)).trans f51
  refine rv a55 ⟨iA o3 (by decide),rv a61 ⟨_,rfl,by rw[ak];exact lim4 (by omega),nl ?_⟩⟩
  rw[aN]
  refine Bv o3 dk (ae rl (by decide)) nofun λhp3 o4=>nx ?_
  have zl2:Z2 l=some (.lst ((rs++[r]).map rT)):=by rw[hz l (aI hkl),us,bQ];rfl
  refine m0 w hS hT hT2 hT4 hgk hgl hkl hk0 hl0 m (k+1) (order++r) z Z2 hp3 _ es2 ep2 (rs++[r]) l2 fuel (by omega) (ks hf) k2 ho2 o4 gr2 ((hz g hgk).trans ((upd_ne hgl).trans zg)) zk2 zl2 (λn hn h=>ke2 n hn ?_) (by omega) (rd.snoc (tB ok w ki ho) rl) a51 a10 a57 a58 a55 q
  rw[aX]
  by_cases c:Hn st n<k
  ·exact .inl c
  ·exact .inr ((gp ok w ki ho hn).mpr (by omega))
theorem Cy{v:Nat}(hv:v<5):hgt st 5 v≤v:=by
 obtain⟨w,hw,e⟩:=(nP ok 5 v hv).1
 rw[←e];exact(wys_ok ok hw).2
theorem tQ{Q:V→Hp→Prop}{X:XA}{hp:Hp}(q:∀hp' kd es ep rs T,Grow hp hp'→hp' kd=some (.dict es ep)→nO st es→BF st rs (T+1)→(∀v<5,hgt st 5 v≤T)→(∃v,v<5∧hgt st 5 v=T)→T≤4→Q (.tup [.ref kd,.lst (rs.map rT),.bool false]) hp'):iD [.lst (st.map stV)] Q X hp:=by
 refine⟨[(51,.lst (st.map stV))],rfl,?_⟩
 have o51:locOf [(51,V.lst (st.map stV))] 51=some (.lst (st.map stV)):=rfl
 generalize locOf [(51,V.lst (st.map stV))]=lo at*
 obtain⟨T,hTe⟩:∃T,T=((aV 5).map (hgt st 5)).foldr max 0:=⟨_,rfl⟩
 have hT:∀v<5,hgt st 5 v≤T:=λv hv=>hTe▸wr.mp (bx _) _ (an.mpr ⟨v,cu.mpr hv,rfl⟩)
 have hT2:∃v,v<5∧hgt st 5 v=T:=by
  obtain⟨v,hv,e⟩:=an.mp (mx_mem ((aV 5).map (hgt st 5)) (by simp))
  exact⟨v,cu.mp hv,e.trans hTe.symm⟩
 have hT4:T≤4:=by
  obtain⟨v,hv,e⟩:=hT2
  have:=Cy ok hl hB hv
  omega
 unfold oV
 refine sq λg hg epa=>gv (nsq ⟨bi rfl,_,rfl,?_⟩)
 have a51:upd lo 10 (.ref g) 51=some (.lst (st.map stV)):=(upd_ne (by decide)).trans o51
 refine oQ hl (hpI:=hp) (g:=g) (by simp) nds [] epa _ (by decide) (by decide) (by decide) a51 us λl1 ep h1=>nsq ?_
 have b51:=(h1 51 (by decide)).trans a51
 have b10:=(h1 10 (by decide)).trans us
 rw[aX]
 have hg1:upd hp g (.dict (nds.map (grE (gE st))) ep) g=some (.dict (nds.map (grE (gE st))) ep):=us
 have gr1:Grow hp (upd hp g (.dict (nds.map (grE (gE st))) ep)):=Grow.new hg
 generalize upd hp g (.dict (nds.map (grE (gE st))) ep)=hp1 at*
 refine rv b10 (nl (vL (h:=gE st) (λn=>ae (ae (sX st n) hl) (by decide)) (by decide) hg1 λx hp2 S hx o w=>gv (nsq ?_)))
 have c51:upd l1 55 (.ref x) 51=some (.lst (st.map stV)):=(upd_ne (by decide)).trans b51
 have c10:upd l1 55 (.ref x) 10=some (.ref g):=(upd_ne (by decide)).trans b10
 have c55:upd l1 55 (.ref x) 55=some (.ref x):=us
 generalize upd l1 55 (.ref x)=l2 at*
 refine rv c55 ⟨iA o (by decide),nl (vM o w.rd (B8 ok w) (λz z h=>by obtain⟨_,_,h⟩:=h;exact h.elim) λhp3 o3 z=>nsq λkd hkd epk=>gv (nsq ⟨aD _,λl hll=>gv (nsq ⟨T+3,?_⟩)⟩))⟩
 have zk0:hp1 kd=ac:=(gN o3).back hkd
 have o4:=o3.other (g:=kd) (o:=.dict [] epk) (.inl hkd)
 have zl1:upd hp1 kd (.dict [] epk) l=ac:=(gN o4).back hll
 have hkl:kd≠l:=λe=>by rw[e,us]at zl1;cases zl1
 have zl0:hp1 l=ac:=(upd_ne (aI hkl)).symm.trans zl1
 have o5:=o4.other (g:=l) (o:=.lst []) (.inl hll)
 have hgk:g≠kd:=λe=>by rw[e,zk0]at hg1;cases hg1
 have hgl:g≠l:=λe=>by rw[e,zl0]at hg1;cases hg1
 have ki:KI S.nodes S.succ [] [] (S.nodes.filter λn=>decide (S.np n=0)) (prepS S):=KI.start w.w.nd rfl rfl w.ps w.fi λn z=>by rw[w.np,y1]
 have hS:∀p,(S.succ p).length≤100:=λp=>by
  have h1:=w.sz p
  have h2:=kF (B:=7) (nds.map λl=>(gE st l).length) λx hx=>by obtain⟨l,_,rfl⟩:=an.mp hx;exact ae (sX st l) hl
  rw[ak]at h2
  exact ae h1 (ae h2 (by decide))
 have u:∀{i},i≠57→i≠58→upd (upd l2 57 (.ref kd)) 58 (.ref l) i=l2 i:=λh1 h2=>(upd_ne h2).trans (upd_ne h1)
 refine m0 ok hl hB (hpI:=hp1) (epg:=ep) w hS hT hT2 hT4 hgk hgl hkl zk0 zl0 (T+1) 0 [] _ _ _ _ [] epk [] _ (T+3) (aW _) (by omega) ki (λn hn=>⟨λh=>(nomatch h),λh=>absurd h (eH _)⟩) o5 ((Grow.new zk0).upd zl0) ((upd_ne hgl).trans ((upd_ne hgk).trans hg1)) ((upd_ne hkl).trans us) us (λn z h=>absurd h (eH _)) (aD _) ⟨rfl,rfl,λz h=>(nomatch h)⟩ ((u (by decide) (by decide)).trans c51) ((u (by decide) (by decide)).trans c10) ((upd_ne (by decide)).trans us) us ((u (by decide) (by decide)).trans c55) λl3 Z hp4 S2 es ep2 rs order e57 e58 e55 o6 k6 gr zk zl ka rd=>nsq ?_
 have hl4:=gN o6 _ _ zl
 refine rv e57 ⟨l,_,e58,hl4,?_⟩
 have o7:=o6.drop ⟨_,zl⟩
 refine rv e55 ⟨iA o7 (by decide),nl (oG o7 k6.rd (aD _) (nl ⟨bi rfl,yH ?_⟩))⟩
 have act:(decide (S2.fin<S2.pass)|| !([]:List Int).isEmpty)=false:=by rw[k6.ps,k6.fi];simp
 rw[act]
 refine q _ kd es ep2 rs T ?_ ?_ ka rd hT hT2 hT4
 ·exact(gr1.trans ((gr.trans (gN o6)).del zl0))
 ·rw[del_ne hkl];exact gN o6 _ _ zk
end
noncomputable def stepOf(n:Int):Option St:=if dg n 5≠dg (n.fdiv 10) 5 then some (min (dg n 5) (dg (n.fdiv 10) 5),max (dg n 5) (dg (n.fdiv 10) 5),dg (n.fdiv 100) 4)else ac
theorem y4{n:Int}{s:St}(h:stepOf n=some s):s.1<s.2.1∧s.2.1≤4∧s.2.2≤3:=by
 unfold stepOf at h
 split at h
 ·rename_i c
  cases h
  have h1:=E4 n
  have h2:=E4 (n.fdiv 10)
  refine⟨?_,i6.mpr ⟨h1,h2⟩,E5 _⟩
  show min _ _<max _ _
  rcases Nat.lt_or_gt_of_ne c with q|q
  ·rw[iE (dx q),j0 (dx q)];exact q
  ·rw[jZ (dx q),kI (dx q)];exact q
 ·cases h
theorem imin(a b:Nat):((min a b:Nat):Int)=min (a:Int) b:=by
 by_cases h:a≤b
 ·rw[iE h,pD (bI.mpr h)]
 ·rw[jZ (fw h),oZ (bI.mpr (fw h))]
theorem AP{Q:V→Hp→Prop}{X:XA}{loc:aZ}{hp:Hp}{n b:Int}{e:DE}(hb:0<b)(he:∀R:V→Hp→Prop,R (.int n) hp→e R X loc hp)(q:Q (.int (dg n b:Nat)) hp):bK n7 (bK n7 e (aJ (.int 10))) (aJ (.int b)) Q X loc hp:=by
 refine he _ ?_
 show(10:Int)≠0∧(b≠0∧Q (.int ((n.fmod 10).fmod b)) hp)
 rw[Aj n hb]
 exact⟨by decide,Int.ne_of_gt hb,q⟩
theorem Ce{R:V→Hp→Prop}{X:XA}{loc:aZ}{hp:Hp}{n:Int}{i:Nat}{k:Int}(h:loc i=some (.int n))(hk:k≠0)(hk2:k.natAbs<1073741824)(q:R (.int (n.fdiv k)) hp):bK uX (ap i) (aJ (.int k)) R X loc hp:=
 rv h ⟨⟨hk,.inr hk2⟩,q⟩
theorem lf{Q:Fw→aZ→Hp→Prop}{v:V}{hp0 hpI:Hp}{a:Addr}(hv:∀h h',same v h h'):∀(nums:List Int)(acc:List St)(loc:aZ),acc.length+nums.length≤10→loc 51=some (.ref a)→
 (∀loc',loc' 51=some (.ref a)→loc' 76=loc 76→Q .next loc' (upd hpI a (.lst ((acc++nums.filterMap stepOf).map stV))))→de v hp0 (aG 77) qN Q (nums.map .int) loc (upd hpI a (.lst (acc.map stV)))
 | [],acc,loc,_,e51,q=>by
   have:=q loc e51 rfl
   rw[List.filterMap_nil,aN]at this;exact this
 |n::nums,acc,loc,hl,e51,q=>by
  refine gv ?_
  unfold qN
  rw[aE]at hl
  have f51:upd loc 77 (.int n) 51=some (.ref a):=(upd_ne (by decide)).trans e51
  have f76:upd loc 77 (.int n) 76=loc 76:=upd_ne (by decide)
  have f77:upd loc 77 (.int n) 77=some (.int n):=us
  generalize upd loc 77 (.int n)=l1 at*
  refine sq (AP (by decide) (λR h=>rv f77 h) (gv (nsq ?_)))
  refine AP (n:=n.fdiv 10) (by decide) (λR h=>Ce ((upd_ne (by decide)).trans f77) (by decide) (by decide) h) (gv (nsq ?_))
  have g51:upd (upd l1 78 (.int (dg n 5:Nat))) 79 (.int (dg (n.fdiv 10) 5:Nat)) 51=some (.ref a):=(upd_ne (by decide)).trans ((upd_ne (by decide)).trans f51)
  have g76:upd (upd l1 78 (.int (dg n 5:Nat))) 79 (.int (dg (n.fdiv 10) 5:Nat)) 76=loc 76:=(upd_ne (by decide)).trans ((upd_ne (by decide)).trans f76)
  have g77:upd (upd l1 78 (.int (dg n 5:Nat))) 79 (.int (dg (n.fdiv 10) 5:Nat)) 77=some (.int n):=(upd_ne (by decide)).trans ((upd_ne (by decide)).trans f77)
  have g78:upd (upd l1 78 (.int (dg n 5:Nat))) 79 (.int (dg (n.fdiv 10) 5:Nat)) 78=some (.int (dg n 5:Nat)):=(upd_ne (by decide)).trans us
  have g79:upd (upd l1 78 (.int (dg n 5:Nat))) 79 (.int (dg (n.fdiv 10) 5:Nat)) 79=some (.int (dg (n.fdiv 10) 5:Nat)):=us
  generalize upd (upd l1 78 (.int (dg n 5:Nat))) 79 (.int (dg (n.fdiv 10) 5:Nat))=l2 at*
  refine rv g78 (rv g79 (ne_int (xb ?_)))
  have e:(n::nums).filterMap stepOf=(stepOf n).toList++nums.filterMap stepOf:=by
   rw[lB]
   cases stepOf n<;>rfl
  by_cases c:dg n 5=dg (n.fdiv 10) 5
  ·refine iF (by rw[c];simp) (nx ⟨hv _ _,lf hv nums acc l2 (by omega) g51 λloc' h1 h2=>?_⟩)
   have:=q loc' h1 (h2.trans g76)
   rw[e,stepOf,if_neg (λh=>h c)]at this;exact this
  ·refine iT (decide_eq_true λh=>c (fe h)) ?_
   have es:stepOf n=some (min (dg n 5) (dg (n.fdiv 10) 5),max (dg n 5) (dg (n.fdiv 10) 5),dg (n.fdiv 100) 4):=if_pos c
   refine sq (rv g51 ⟨isLst_ref us,rv g78 (rv g79 (nl (zH.mpr ?_)))⟩)
   refine rv g78 (rv g79 (nl (ur.mpr ?_)))
   have k3:=E5 (n.fdiv 100)
   rw[cr,fW,fW]
   refine cn ?_
   refine AP (n:=n.fdiv 100) (b:=4) (by decide) (λR h=>Ce g77 (by decide) (by decide) h) ?_
   refine⟨yK _ (by decide),AD k3 (by decide),lim4 (by rw[a9,b8,pg];omega),cn ⟨?_,?_⟩⟩
   ·rw[a9,oE,cJ];exact lim4 (by show _+1≤_;omega)
   ·rw[a9,oE,←imin,←AM]
    refine nl ⟨bi rfl,nl (gF us ?_ (nx (nx ⟨hv _ _,?_⟩)))⟩
    ·rw[ak];exact lim4 (by omega)
    ·have ea:acc.map stV++[V.tup [.int (min (dg n 5) (dg (n.fdiv 10) 5):Nat),.int (max (dg n 5) (dg (n.fdiv 10) 5):Nat),.str (ar (dg (n.fdiv 100) 4) 32++[9])]]=(acc++[(min (dg n 5) (dg (n.fdiv 10) 5),max (dg n 5) (dg (n.fdiv 10) 5),dg (n.fdiv 100) 4)]).map stV:=by rw[bQ];rfl
     rw[lH,ea]
     refine lf hv nums _ l2 (by rw[aw,b8];omega) g51 λloc' h1 h2=>?_
     have:=q loc' h1 (h2.trans g76)
     rw[e,es]at this
     rw[bC];exact this
theorem uE(a:List Nat)(t:Nat):cv (a,1) t=cv (a,0) t+1:=by
 show 1+t*((a.map λr=>r / t).sum+a.length)=0+t*((a.map λr=>r / t).sum+a.length)+1;omega
theorem cv_blank(m t:Nat):cv ([],m) t=m:=by
 show m+t*(0+0)=m;rw[nr,nq,nr]
theorem vm(a:List Nat):fN a 0 a 1=true:=(oz (p:=(a,0)) (q:=(a,1))).mpr λt z=>by rw[uE];exact cR _
theorem zE{a:List Nat}:encR a=[]↔a=[]:=by
 cases a with
 |nil=>exact⟨λz=>rfl,λz=>rfl⟩
 |cons r a=>
  refine⟨λh=>?_,nofun⟩
  have:=congrArg oJ h
  rw[rX]at this;simp at this
theorem tJ(a:List Nat):fN a 0 [] ((encR a).length+1)=decide (encR a=[]):=by
 refine ic.mpr ((oz (p:=(a,0)) (q:=([],(encR a).length+1))).trans ?_)
 rw[decide_eq_true_iff,zE]
 constructor
 ·intro h
  cases a with
  |nil=>rfl
  |cons r a=>
   have:=h ((encR (r::a)).length+1) (bZ 1 _)
   rw[cv_blank]at this
   refine absurd this (gQ ?_)
   show _≤0+_*(_+(a.length+1))
   rw[aW]
   exact Nat.le_mul_of_pos_right _ (by omega)
 ·rintro rfl t _
  rw[cv_blank]
  show 0+t*(0+0)<_
  rw[nr,nq];exact kf _
theorem wG{l:List Nat}(h:∀c∈l,c<128):bu (.str ⟨l.toArray⟩)=true:=by
 simp[bu,dD,eX,At]
 exact λx hx=>ew (h x hx) (by decide)
theorem zB{Q:V→Hp→Prop}{hp:Hp}{l:List Nat}(h:∀c∈l,c<128)(q:Q (.bool (decide (l=[]))) hp):nZ (.str l) (.str []) Q hp:=by
 refine⟨_,_,rfl,rfl,wG h,wG (λz h=>(nomatch h)),?_⟩
 have e:cf (.str ⟨l.toArray⟩) (.str ⟨([]:List Nat).toArray⟩)=decide (l=[]):=by
  show((⟨l.toArray⟩:Str)==⟨([]:List Nat).toArray⟩)=_
  cases l with
  |nil=>rfl
  |cons c l=>exact beq_eq_false_iff_ne.mpr λh=>by injection h with h;have:=congrArg Array.toList h;cases this
 rw[e];exact q
section
variable{sizes:List Nat}(hs:sizes.length≤100)(h1:∀t∈sizes,1≤t)
include hs h1
theorem vo{Q:Fw→aZ→Hp→Prop}{X:XS}{hp:Hp}{loc:aZ}{a:List Nat}{n:Nat}(ha:okA n a)(hn:n≤4)(e46:loc 46=some (wR a))(e70:loc 70=some (.lst (sizes.map λt=>.int (t:Nat))))
 (q:∀loc' hp',(∀i,i≠84→i≠85→loc' i=loc i)→Grow hp hp'→Q .next loc' hp'):nU Q X loc hp:=by
 unfold nU
 have la:=enc_len ha hn
 have n0:=nOf3 ha hn
 have n1:nOf a 1≤10000:=ae (aR (mI ha hn)) (by decide)
 have as:∀c∈encR a,c<128:=λc hc=>by rcases encR_mem hc with rfl|rfl<;>decide
 refine sq (rv e46 ⟨rfl,_,rfl,rfl,cn ⟨lim4 (by simp;omega),nl ?_⟩⟩)
 have hd1:encR a++[32]=hd (a,1):=rfl
 rw[hd1]
 refine AV (λc hc=>by rcases hd_mem hc with rfl|rfl<;>decide) (by rw[←hd1,aw];simp;omega) λhp1 g1=>?_
 rw[oy]
 refine gv (nsq ?_)
 rw[gO,eG,cr,fW,e9,fW,eG,cr,jz,bV]
 refine rv ((upd_ne (by decide)).trans e46) ⟨rfl,_,rfl,rfl,nl (ut.mpr ⟨lim4 (by omega),cn ?_⟩)⟩
 have hm:((encR a).length:Int)+1=(((encR a).length+1:Nat):Int):=rfl
 refine DZ ?_
 rw[hm]
 refine⟨yK _ (by decide),AD (show(encR a).length+1≤17 by omega) (by decide),lim4 (by rw[a9,b8,pg];omega),nl ?_⟩
 rw[a9,oE]
 have hd2:ar ((encR a).length+1) 32=hd ([],(encR a).length+1):=rfl
 rw[hd2]
 refine AV (λc hc=>by rcases hd_mem hc with rfl|rfl<;>decide) (by rw[←hd2,cJ];omega) λhp2 g2=>?_
 rw[oy]
 refine gv (nsq ?_)
 have f46:upd (upd loc 84 (wObj (hd (a,1)) a 1)) 85 (wObj (hd ([],(encR a).length+1)) [] ((encR a).length+1)) 46=some (wR a):=(upd_ne (by decide)).trans ((upd_ne (by decide)).trans e46)
 have f70:upd (upd loc 84 (wObj (hd (a,1)) a 1)) 85 (wObj (hd ([],(encR a).length+1)) [] ((encR a).length+1)) 70=some (.lst (sizes.map λt=>.int (t:Nat))):=(upd_ne (by decide)).trans ((upd_ne (by decide)).trans e70)
 have f84:upd (upd loc 84 (wObj (hd (a,1)) a 1)) 85 (wObj (hd ([],(encR a).length+1)) [] ((encR a).length+1)) 84=some (wObj (hd (a,1)) a 1):=(upd_ne (by decide)).trans us
 have f85:upd (upd loc 84 (wObj (hd (a,1)) a 1)) 85 (wObj (hd ([],(encR a).length+1)) [] ((encR a).length+1)) 85=some (wObj (hd ([],(encR a).length+1)) [] ((encR a).length+1)):=us
 have fo:∀i,i≠84→i≠85→upd (upd loc 84 (wObj (hd (a,1)) a 1)) 85 (wObj (hd ([],(encR a).length+1)) [] ((encR a).length+1)) i=loc i:=λi h1 h2=>(upd_ne h2).trans (upd_ne h1)
 generalize upd (upd loc 84 (wObj (hd (a,1)) a 1)) 85 (wObj (hd ([],(encR a).length+1)) [] ((encR a).length+1))=l1 at*
 refine rv f70 ⟨_,rfl,?_⟩
 have k84:keepL [84,46] l1 84=some (wObj (hd (a,1)) a 1):=kp f84
 have k46:keepL [84,46] l1 46=some (wR a):=kp f46
 generalize keepL [84,46] l1=l2 at*
 refine sK (λt:Nat=>V.int (t:Nat)) (λt:Nat=>V.int (t:Nat)) (λz=>false) (ae hs (by decide)) trivial (λt ht R hR=>?_) (λt ht h=>nomatch h) ?_
 ·refine rv ((upd_ne (by decide)).trans k84) ⟨rn (.inr (.inr rfl)),rv us (nl (lO (h1 t ht) n1 ?_))⟩
  refine rv ((upd_ne (by decide)).trans k46) ⟨rn (.inr (.inr rfl)),rv us (nl (lO (h1 t ht) n0 (cn (DZ (ne_int (xb ?_))))))⟩
  have e:lv a 1 t=lv a 0 t+1:=uE a t
  rw[e]
  simpa using hR
 ·rw[show(sizes.filter λz=>false)=[]from gn.mpr λz z=>aH]
  refine nl ⟨aD _,_,rfl,rfl,xb (iF aH (nsq ?_))⟩
  refine rv f46 ⟨rn (.inl rfl),rv f84 (nl (tj n0 n1 (cn ⟨_,my,xb ?_⟩)))⟩
  rw[vm]
  refine iF (by decide) (rv f46 ⟨rn (.inr (.inl rfl)),rv f84 (nl (uH (cn ⟨_,my,xb ?_⟩)))⟩)
  rw[show decide (cnt a=cnt a∧0=1)=false from decide_eq_false λh=>nomatch h.2]
  refine iF (by decide) (iF aH (nsq ?_))
  have nb:nOf [] ((encR a).length+1)≤10000:=by show 0+_≤_;omega
  refine rv f46 ⟨rn (.inl rfl),rv f85 (nl (tj n0 nb (rv f46 ⟨rfl,_,rfl,rfl,cn (zB as ⟨_,my,xb ?_⟩)⟩)))⟩
  rw[tJ]
  exact iF (by simp) (nx (q l1 hp2 fo (g1.trans g2)))
end
section
variable{sizes:List Nat}(hs:sizes.length≤100)(h1:∀t∈sizes,1≤t)
include hs h1
theorem oN{Q:Fw→aZ→Hp→Prop}{v:V}{hp0:Hp}{n:Nat}(hv:∀h h',same v h h')(hn:n≤4):∀(L:List (List Nat))(loc:aZ)(hp:Hp),(∀a∈L,okA n a)→loc 70=some (.lst (sizes.map λt=>.int (t:Nat)))→
 (∀loc' hp',(∀i,i≠46→i≠84→i≠85→loc' i=loc i)→Grow hp hp'→Q .next loc' hp')→de v hp0 (aG 46) nU Q (L.map wR) loc hp
 | [],loc,hp,_,_,q=>q loc hp (λz z z z=>rfl) (Grow.refl hp)
 |a::L,loc,hp,hL,e70,q=>by
  refine gv (vo hs h1 (hL a (.head _)) hn us ((upd_ne (by decide)).trans e70) λl1 hp1 f1 g1=>⟨hv _ _,?_⟩)
  refine oN hv hn L l1 hp1 (λx hx=>hL x (.tail _ hx)) ((f1 70 (by decide) (by decide)).trans ((upd_ne (by decide)).trans e70)) λl2 hp2 f2 g2=>q l2 hp2 (λi a b c=>(f2 i a b c).trans ((f1 i b c).trans (upd_ne a))) (g1.trans g2)
end
theorem oA{α:Type}(f:α→Nat)(xs:List α):(xs.map λx=>V.int (f x:Nat))=(xs.map λx=>((f x:Nat):Int)).map .int:=by rw[aL];rfl
section
variable{st:List St}(ok:kM st)(hl:st.length≤7)(hB:∀v≤4,2 ^ cV st v≤32){sizes:List Nat}(hs:sizes.length≤100)(h1:∀t∈sizes,1≤t)(h4:∀t∈([1,2,3,4]:List Nat),t∈sizes)
include ok hl hB hs h1 h4
theorem ve{Q:Fw→aZ→Hp→Prop}{X:XS}{hp:Hp}{loc:aZ}{kd:Addr}{es:List (Int×V)}{ep v:Nat}(hv:v<5)(hk:hp kd=some (.dict es ep))(ka:nO st es)(e51:loc 51=some (.lst (st.map stV)))(e57:loc 57=some (.ref kd))(e70:loc 70=some (.lst (sizes.map λt=>.int (t:Nat))))(e1:loc 1=some (.int (v:Nat)))
 (q:∀loc' hp',(∀i,i=51∨i=57∨i=70→loc' i=loc i)→Grow hp hp'→Q .next loc' hp'):lP Q X loc hp:=by
 unfold lP
 have v4:v≤4:=aP hv
 have ww:∀a∈jW st 5 v,okA v a:=λa ha=>wys_ok ok ha
 have kk:∀a∈kpt st 5 v,okA v a:=λa ha=>kpt_ok ok ha
 have wl:=ae (nK ok 5 v) (hB v v4)
 have kl:=ae (qJ ok 5 v) (hB v v4)
 have wne:=qu ok 5 v hv
 have kne:kpt st 5 v≠ []:=by
  obtain⟨w,ws,e⟩:=eZ wne
  obtain⟨a,ha,_⟩:=rG ok hv (e▸ .head _:w∈jW st 5 v)
  exact mf ha
 have ke:eAt es (v:Nat)=some (.lst ((kpt st 5 v).map wR)):=ka (v:Nat) (eE.mpr ⟨v,hv,rfl⟩)
 refine sq (rv e51 (rv e1 (nl (ln ok hl hB 5 v hv (bx _) (rv e70 (nl (vN v4 ww (ae wl (by decide)) wne hs h1 λhp1 g1=>CZ (nsq ?_))))))))
 rw[yd ok h4 h1 hv]
 have hk1:=g1 _ _ hk
 have mg:(sizes.map λt=>mxI ((jW st 5 v).map λa=>((cv (a,0) t:Nat):Int)))=sizes.map λt=>mxI ((kpt st 5 v).map λa=>((cv (a,0) t:Nat):Int)):=by
  refine bo λt ht=>?_
  obtain⟨a1,a2⟩:=lS ((kpt st 5 v).map λa=>((cv (a,0) t:Nat):Int)) (by simpa using kne)
  obtain⟨b1,b2⟩:=lS ((jW st 5 v).map λa=>((cv (a,0) t:Nat):Int)) (by simpa using wne)
  exact(xY ok hv (h1 t ht) a1 a2 b1 b2).symm
 rw[mg]
 have f1:upd (upd loc 72 (.lst ((sortL ((kpt st 5 v).map key)).map bagV))) 83 (.lst ((sizes.map λt=>mxI ((kpt st 5 v).map λa=>((cv (a,0) t:Nat):Int))).map .int)) 1=some (.int (v:Nat)):=(upd_ne (by decide)).trans ((upd_ne (by decide)).trans e1)
 have f57:upd (upd loc 72 (.lst ((sortL ((kpt st 5 v).map key)).map bagV))) 83 (.lst ((sizes.map λt=>mxI ((kpt st 5 v).map λa=>((cv (a,0) t:Nat):Int))).map .int)) 57=some (.ref kd):=(upd_ne (by decide)).trans ((upd_ne (by decide)).trans e57)
 have f70:upd (upd loc 72 (.lst ((sortL ((kpt st 5 v).map key)).map bagV))) 83 (.lst ((sizes.map λt=>mxI ((kpt st 5 v).map λa=>((cv (a,0) t:Nat):Int))).map .int)) 70=some (.lst (sizes.map λt=>.int (t:Nat))):=(upd_ne (by decide)).trans ((upd_ne (by decide)).trans e70)
 have f72:upd (upd loc 72 (.lst ((sortL ((kpt st 5 v).map key)).map bagV))) 83 (.lst ((sizes.map λt=>mxI ((kpt st 5 v).map λa=>((cv (a,0) t:Nat):Int))).map .int)) 72=some (.lst ((sortL ((kpt st 5 v).map key)).map bagV)):=(upd_ne (by decide)).trans us
 have f83:upd (upd loc 72 (.lst ((sortL ((kpt st 5 v).map key)).map bagV))) 83 (.lst ((sizes.map λt=>mxI ((kpt st 5 v).map λa=>((cv (a,0) t:Nat):Int))).map .int)) 83=some (.lst ((sizes.map λt=>mxI ((kpt st 5 v).map λa=>((cv (a,0) t:Nat):Int))).map .int)):=us
 have fo:∀i,i=51∨i=57∨i=70→upd (upd loc 72 (.lst ((sortL ((kpt st 5 v).map key)).map bagV))) 83 (.lst ((sizes.map λt=>mxI ((kpt st 5 v).map λa=>((cv (a,0) t:Nat):Int))).map .int)) i=loc i:=λi hi=>by
  rcases hi with rfl|rfl|rfl<;>exact(upd_ne (by decide)).trans (upd_ne (by decide))
 generalize upd (upd loc 72 (.lst ((sortL ((kpt st 5 v).map key)).map bagV))) 83 (.lst ((sizes.map λt=>mxI ((kpt st 5 v).map λa=>((cv (a,0) t:Nat):Int))).map .int))=l1 at*
 refine rv f57 (rv f1 (BC hk1 ke ⟨_,rfl,qr wR (λa=>bagV (key a)) (ae kl (by decide)) trivial (λa ha R hR=>rv us ⟨rfl,_,rfl,rfl,nl (mQ (kk a ha) v4 hR)⟩) (nl ?_)⟩))
 refine⟨_,(kpt st 5 v).map key,rfl,by rw[aL];rfl,by rw[ak];exact bc kl (by decide),?_⟩
 refine rv f72 (ue (qx _) (qx _) (mH _) (xb (iF aH (nsq ?_))))
 have k57:keepL [57,1] l1 57=some (.ref kd):=kp f57
 have k1:keepL [57,1] l1 1=some (.int (v:Nat)):=kp f1
 refine rv f70 ⟨_,rfl,?_⟩
 generalize keepL [57,1] l1=l2 at*
 refine qr (λt:Nat=>V.int (t:Nat)) (λt=>V.int (mxI ((kpt st 5 v).map λa=>((cv (a,0) t:Nat):Int)))) (ae hs (by decide)) trivial (λt ht R hR=>?_) ?_
 ·refine rv ((upd_ne (by decide)).trans k57) (rv ((upd_ne (by decide)).trans k1) (BC hk1 ke ⟨_,rfl,?_⟩))
  have k66:keepL [66] (upd l2 66 (.int (t:Nat))) 66=some (.int (t:Nat)):=kp us
  refine qr wR (λa=>V.int (cv (a,0) t:Nat)) (ae kl (by decide)) trivial (λa ha R' hR'=>rv us ⟨rn (.inr (.inr rfl)),rv ((upd_ne (by decide)).trans k66) (nl (lO (h1 t ht) (nOf3 (kk a ha) v4) hR'))⟩) (nl ?_)
  rw[oA]
  exact nM (by simpa using kne) hR
 ·have e:(sizes.map λt=>V.int (mxI ((kpt st 5 v).map λa=>((cv (a,0) t:Nat):Int))))=(sizes.map λt=>mxI ((kpt st 5 v).map λa=>((cv (a,0) t:Nat):Int))).map .int:=by rw[aL];rfl
  rw[e]
  refine rv f83 (ne_ints (xb (iF (by simp) (nsq ?_))))
  refine rv f57 (rv f1 (BC hk1 ke ⟨_,rfl,?_⟩))
  exact oN hs h1 (by simp) v4 (kpt st 5 v) l1 hp1 kk f70 λl3 hp3 f3 g3=>nx (q l3 hp3 (λi hi=>(f3 i (by rintro rfl;rcases hi with h|h|h<;>cases h) (by rintro rfl;rcases hi with h|h|h<;>cases h) (by rintro rfl;rcases hi with h|h|h<;>cases h)).trans (fo i hi)) (g1.trans g3))
theorem nodes_loop{Q:Fw→aZ→Hp→Prop}{u:V}{hp0:Hp}{kd:Addr}{es:List (Int×V)}{ep:Nat}(hu:∀h h',same u h h')(ka:nO st es):∀(vs:List Nat)(loc:aZ)(hp:Hp),(∀v∈vs,v<5)→hp kd=some (.dict es ep)→loc 51=some (.lst (st.map stV))→loc 57=some (.ref kd)→loc 70=some (.lst (sizes.map λt=>.int (t:Nat)))→
 (∀loc' hp',Q .next loc' hp')→de u hp0 (aG 1) lP Q (vs.map λv=>.int (v:Nat)) loc hp
 | [],loc,hp,_,_,_,_,_,q=>q loc hp
 |v::vs,loc,hp,hvs,hk,e51,e57,e70,q=>by
  have u1:∀{i},i≠1→upd loc 1 (.int (v:Nat)) i=loc i:=λh=>upd_ne h
  refine gv (ve ok hl hB hs h1 h4 (hvs v (.head _)) hk ka ((u1 (by decide)).trans e51) ((u1 (by decide)).trans e57) ((u1 (by decide)).trans e70) us λl1 hp1 f1 g1=>⟨hu _ _,?_⟩)
  exact nodes_loop hu ka vs l1 hp1 (λw hw=>hvs w (.tail _ hw)) (g1 _ _ hk) ((f1 51 (.inl rfl)).trans ((u1 (by decide)).trans e51)) ((f1 57 (.inr (.inl rfl))).trans ((u1 (by decide)).trans e57)) ((f1 70 (.inr (.inr rfl))).trans ((u1 (by decide)).trans e70)) q
end
theorem so(ns:List Int):(340::10::41::ns).filterMap stepOf=st0++ns.filterMap stepOf:=rfl
noncomputable def stOf(ns:List Int):List St:=st0++(ns.take 4).filterMap stepOf
theorem y5(ns:List Int):kM (stOf ns):=λs hs=>by
 rcases az.mp hs with h|h
 ·simp[st0]at h
  rcases h with rfl|rfl|rfl<;>decide
 ·obtain⟨n,_,e⟩:=mi.mp h
  exact y4 e
theorem rJ(ns:List Int):((ns.take 4).filterMap stepOf).length≤4:=ae (List.length_filterMap_le _ _) (by rw[yD];exact Av _ _)
theorem xw(ns:List Int):(stOf ns).length≤7:=by
 rw[stOf,aw];exact dX (rJ ns) 3
noncomputable def qI:DS:=
 (ay (bE (aS iD (av (ap 51) aF)) (ij ([57,58,80].map aG)))
 (ay (bE (dF [51] (aS d4 (av (aJ (.int 5)) aF)) (aG 1) fNone (eM (aS mY (av (dF [] (aS (cU 5) (av (ap 51) (av (ap 1) aF))) (aG 63) fNone (eM (b7 isStr tf (ap 63) (av (aJ (.str [9])) aF)))) aF)))) (aG 81))
 (ay (bE (dF [81] (aS d4 (av (bK d9 (aS mY (av (ap 81) aF)) (aJ (.int 1))) aF)) (aG 75) fNone (eM (dF [81,75] (aS d4 (av (aJ (.int 5)) aF)) (aG 1) (cF nZ (bK dJ (ap 81) (ap 1)) (ap 75)) (eM (ap 1))))) (aG 82))
 (ay (jX (yz (cF ix (ap 80) (aJ (.bool false))) (yz (cF tX (dF [] (ap 58) (aG 61) (kL (aS te (av (ap 61) (av (aJ (.fn (.type "tuple"))) aF)))) (eM (aS s8 (av (ap 61) aF)))) (ap 82)) (λQ z z hp=>Q false hp)))
 (ay (fQ (aJ (.bool false)))
 aB)
 aB)
 (ay (jr (aS d4 (av (aJ (.int 5)) aF)) (aG 1)
 lP)
 (ay (fQ (aJ (.bool true)))
 aB))))))
section
variable{st:List St}(ok:kM st)(hl:st.length≤7)(hB:∀v≤4,2 ^ cV st v≤32){sizes:List Nat}(hs:sizes.length≤100)(h1:∀t∈sizes,1≤t)(h4:∀t∈([1,2,3,4]:List Nat),t∈sizes)
include ok hl hB hs h1 h4
theorem xP{hp:Hp}{X:XS}{Qs:Fw→aZ→Hp→Prop}{l4:aZ}(hK:∀loc' hp',Qs (.ret (.bool true)) loc' hp')(d51:l4 51=some (.lst (st.map stV)))(d70:l4 70=some (.lst (sizes.map λt=>.int (t:Nat)))):qI Qs X l4 hp:=by
 unfold qI
 refine sq ?_
 refine rv d51 (nl (tQ ok hl hB λhp1 kd es ep rs T gr hk ka rd hT hT2 hT4=>CY (nsq ?_)))
 have f51:upd (upd (upd l4 57 (.ref kd)) 58 (.lst (rs.map rT))) 80 (.bool false) 51=some (.lst (st.map stV)):=(upd_ne (by decide)).trans ((upd_ne (by decide)).trans ((upd_ne (by decide)).trans d51))
 have f70:upd (upd (upd l4 57 (.ref kd)) 58 (.lst (rs.map rT))) 80 (.bool false) 70=some (.lst (sizes.map λt=>.int (t:Nat))):=(upd_ne (by decide)).trans ((upd_ne (by decide)).trans ((upd_ne (by decide)).trans d70))
 have f57:upd (upd (upd l4 57 (.ref kd)) 58 (.lst (rs.map rT))) 80 (.bool false) 57=some (.ref kd):=(upd_ne (by decide)).trans ((upd_ne (by decide)).trans us)
 have f58:upd (upd (upd l4 57 (.ref kd)) 58 (.lst (rs.map rT))) 80 (.bool false) 58=some (.lst (rs.map rT)):=(upd_ne (by decide)).trans us
 have f80:upd (upd (upd l4 57 (.ref kd)) 58 (.lst (rs.map rT))) 80 (.bool false) 80=some (.bool false):=us
 generalize upd (upd (upd l4 57 (.ref kd)) 58 (.lst (rs.map rT))) 80 (.bool false)=l5 at*
 have k51:keepL [51] l5 51=some (.lst (st.map stV)):=kp f51
 refine wA (n:=5) (λv=>V.int (hgt st 5 v:Nat)) (by decide) (λR hR=>cn hR) (λv hv R hR=>?_) (gv (nsq ?_))
 ·refine rv ((upd_ne (by decide)).trans k51) (rv us (nl (ln ok hl hB 5 v hv (bx _) ⟨_,rfl,?_⟩)))
  have wl:=ae (nK ok 5 v) (hB v (aP hv))
  refine qr wT (λw=>V.int (w.length:Nat)) (ae wl (by decide)) trivial (λw hw R' hR'=>rv us ⟨⟨_,rfl⟩,cn (nl ⟨encR w,9,rfl,by rw[vA];exact hR'⟩)⟩) (nl ?_)
  rw[oA (λw:List Nat=>w.length)]
  obtain⟨⟨w,hw,e⟩,hle⟩:=nP ok 5 v hv
  have em:=qG (l:=(jW st 5 v).map λw=>((w.length:Nat):Int)) (M:=(hgt st 5 v:Nat)) (an.mpr ⟨w,hw,by rw[e]⟩) λx hx=>by
   obtain⟨y,hy,rfl⟩:=an.mp hx
   exact bI.mpr (hle y hy)
  refine nM (by simpa using qu ok 5 v hv) ?_
  rw[←em];exact hR
 have g81:upd l5 81 (.lst ((aV 5).map λv=>V.int (hgt st 5 v:Nat))) 81=some (.lst ((aV 5).map λv=>V.int (hgt st 5 v:Nat))):=us
 have gu:∀{i},i≠81→upd l5 81 (.lst ((aV 5).map λv=>V.int (hgt st 5 v:Nat))) i=l5 i:=λh=>upd_ne h
 have g51:=(gu (by decide)).trans f51
 have g57:=(gu (by decide)).trans f57
 have g58:=(gu (by decide)).trans f58
 have g70:=(gu (by decide)).trans f70
 have g80:=(gu (by decide)).trans f80
 clear gu
 generalize upd l5 81 (.lst ((aV 5).map λv=>V.int (hgt st 5 v:Nat)))=l6 at*
 have hT1:mxI ((aV 5).map λv=>((hgt st 5 v:Nat):Int))=(T:Nat):=by
  obtain⟨v,hv,e⟩:=hT2
  refine(qG (an.mpr ⟨v,cu.mpr hv,by rw[e]⟩) λx hx=>?_).symm
  obtain⟨y,hy,rfl⟩:=an.mp hx
  exact bI.mpr (hT y (cu.mp hy))
 have k81:keepL [81] l6 81=some (.lst ((aV 5).map λv=>V.int (hgt st 5 v:Nat))):=kp g81
 refine wA (n:=T+1) (λk=>bagV (kO st k)) (by omega) (λR hR=>?_) (λk hk R hR=>?_) (gv (nsq ?_))
 ·refine rv g81 (nl ?_)
  rw[oA]
  refine nM (by simp) (cn (DZ ?_))
  rw[hT1];exact hR
 ·have k81':keepL [81,75] (upd (keepL [81] l6) 75 (.int (k:Nat))) 81=some (.lst ((aV 5).map λv=>V.int (hgt st 5 v:Nat))):=kp ((upd_ne (by decide)).trans k81)
  have k75':keepL [81,75] (upd (keepL [81] l6) 75 (.int (k:Nat))) 75=some (.int (k:Nat)):=kp us
  refine CA (n:=5) (λv=>decide (hgt st 5 v=k)) (λv=>V.int (v:Nat)) (by decide) (λR hR=>cn hR) (λv hv R' hR'=>?_) (λv hv z R' hR'=>rv us hR') ?_
  ·refine rv ((upd_ne (by decide)).trans k81') (rv us (E1 ⟨lim4 (by simp),V.int (hgt st 5 v:Nat),?_,rv ((upd_ne (by decide)).trans k75') (eq_int (xb ?_))⟩))
   ·rw[oP,b9,dj hv];rfl
   ·rw[show decide (((hgt st 5 v:Nat):Int)=(k:Nat))=decide (hgt st 5 v=k)from decide_eq_decide.mpr BO];exact hR'
  ·have e:bagV (kO st k)= .lst (((aV 5).filter λv=>decide (hgt st 5 v=k)).map λv=>V.int (v:Nat)):=by
    rw[bagV,kO,aL];rfl
   rw[←e];exact hR
 have m82:upd l6 82 (.lst ((aV (T+1)).map λk=>bagV (kO st k))) 82=some (.lst ((aV (T+1)).map λk=>bagV (kO st k))):=us
 have mu:∀{i},i≠82→upd l6 82 (.lst ((aV (T+1)).map λk=>bagV (kO st k))) i=l6 i:=λh=>upd_ne h
 have m51:=(mu (by decide)).trans g51
 have m57:=(mu (by decide)).trans g57
 have m58:=(mu (by decide)).trans g58
 have m70:=(mu (by decide)).trans g70
 have m80:=(mu (by decide)).trans g80
 clear mu
 generalize upd l6 82 (.lst ((aV (T+1)).map λk=>bagV (kO st k)))=l7 at*
 refine rv m80 (cn ⟨_,my,xb (iF (by decide) ?_)⟩)
 refine rv m58 ⟨_,rfl,?_⟩
 refine sK rT (λr=>bagV (fU r)) (λz=>true) (by rw[rd.len];omega) trivial (λr hr R hR=>rv us (cn (nl ⟨_,rfl,⟨_,rfl,nofun,hR⟩⟩))) (λr hr z R hR=>rv us (nl ⟨_,r,rfl,jD r,by rw[ak];exact bc (rd.few r hr) (by decide),hR⟩)) ?_
 have e:(rs.filter λz=>true).map (λr=>bagV (fU r))=(aV (T+1)).map λk=>bagV (kO st k):=by
  rw[iH.mpr λz z=>rfl]
  have:=congrArg (fO bagV) rd.srt
  rw[aL,aL]at this
  exact this
 rw[e]
 have e2:((aV (T+1)).map λk=>bagV (kO st k))=((aV (T+1)).map (kO st)).map bagV:=by rw[aL];rfl
 refine rv m82 ?_
 rw[e2]
 refine ue (qx _) (qx _) (mH _) (xb (iF aH (iF aH (nsq ?_))))
 rw[wW,eG,cr,e9,ek]
 refine DR ⟨_,j9 (by decide) (by decide),?_⟩
 rw[show(5:Int)=((5:Nat):Int)from rfl,qE]
 exact nodes_loop ok hl hB hs h1 h4 (by simp) ka (aV 5) l7 hp1 (λv hv=>cu.mp hv) hk m51 m57 m70 λloc' hp'=>nsq (cn (yH (hK loc' hp')))
end
theorem Bc(ns:List Int)(hns:ns.length≤63):wD [.lst (ns.map .int)] (λv z=>v= .bool true) noXA (λz=>ac):=by
 refine⟨[(76,.lst (ns.map .int))],rfl,?_⟩
 have o76:locOf [(76,V.lst (ns.map .int))] 76=some (.lst (ns.map .int)):=rfl
 generalize locOf [(76,V.lst (ns.map .int))]=lo at*
 have ok:=y5 ns
 have hl:=xw ns
 have hB:∀v≤4,2 ^ cV (stOf ns) v≤32:=λv hv=>CC (rJ ns) hv
 have h4l:(ns.take 4).length≤4:=by rw[yD];exact Av _ _
 unfold Ap
 refine sq ⟨aD _,λa ha=>gv (nsq ?_)⟩
 have a76:upd lo 51 (.ref a) 76=some (.lst (ns.map .int)):=(upd_ne (by decide)).trans o76
 have a51:upd lo 51 (.ref a) 51=some (.ref a):=us
 generalize upd lo 51 (.ref a)=l1 at*
 have ec:=yg (ns.map V.int) 4
 rw[←List.map_take]at ec
 refine⟨bi rfl,rv a76 (cn (cn (cn (FJ ⟨none,some (4:Nat),none,by rw[ak];exact lim2 _ (ae hns (by decide)),rfl,rfl,rfl,nofun,?_⟩))))⟩
 rw[ec]
 refine FL ⟨by rw[ak];exact lim2 _ (ae (dX h4l 3) (by decide)),_,rfl,?_⟩
 show de (.lst ((340::10::41::ns.take 4).map .int)) _ _ _ _ ((340::10::41::ns.take 4).map .int) _ _
 refine lf (hpI:=λz=>ac) (a:=a) (by simp) _ [] l1 (by simp;omega) a51 λl2 b51 b76=>nx ⟨a,_,b51,us,sq ?_⟩
 rw[aX,so,lI ha]
 have c76:upd l2 51 (.lst ((stOf ns).map stV)) 76=some (.lst (ns.map .int)):=(upd_ne (by decide)).trans (b76.trans a76)
 have c51:upd l2 51 (.lst ((stOf ns).map stV)) 51=some (.lst ((stOf ns).map stV)):=us
 show bE _ _ _ _ (upd l2 51 (.lst ((stOf ns).map stV))) _
 generalize upd l2 51 (.lst ((stOf ns).map stV))=l3 at*
 obtain⟨sizes,hsz⟩:∃sizes:List Nat,sizes=[1,2,3,4,5,ns.sum.natAbs+1]:=⟨_,rfl⟩
 have hs:sizes.length≤100:=by rw[hsz];exact bi rfl
 have h1:∀t∈sizes,1≤t:=by rw[hsz];intro t ht;simp at ht;omega
 have h4:∀t∈([1,2,3,4]:List Nat),t∈sizes:=by rw[hsz];intro t ht;simp at ht⊢;omega
 have eabs:(if ns.sum<0 then -ns.sum else ns.sum)+1=((ns.sum.natAbs+1:Nat):Int):=by split<;>omega
 rw[gO,qA,cr,e9,cr,e9,cr,e9,cr,e9,cr,e9,cr,fW,eG,cr,eG,cr,bV,rd c76,ek,Bp,ek,Bs,e9,mB,ek]
 refine⟨bi rfl,?_⟩
 rw[eabs]
 have esz:V.lst [.int 1,.int 2,.int 3,.int 4,.int 5,.int ((ns.sum.natAbs+1:Nat):Int)]= .lst (sizes.map λt=>.int (t:Nat)):=by rw[hsz];rfl
 rw[esz]
 refine gv (nx ?_)
 have d51:upd l3 70 (.lst (sizes.map λt=>.int (t:Nat))) 51=some (.lst ((stOf ns).map stV)):=(upd_ne (by decide)).trans c51
 have d70:upd l3 70 (.lst (sizes.map λt=>.int (t:Nat))) 70=some (.lst (sizes.map λt=>.int (t:Nat))):=us
 generalize upd l3 70 (.lst (sizes.map λt=>.int (t:Nat)))=l4 at*
 show qI _ _ _ _
 exact xP ok hl hB hs h1 h4 (λz z=>rfl) d51 d70
end Mine
open PySem PySem.W PySem.W.X PyProof.Rows PySem.W.ZRun Mine
set_option tactic.hygienic true in
set_option maxRecDepth 100000 in
set_option maxHeartbeats 0 in
theorem PySem.Challenge.cw_mr0354_03_holds : PySem.Challenge.rw_mr0354_03.Holds := by
 w_on
 refine Hd.holds ?_
 intro w s₀ s₁ mg mb G y fa o pm cd doc dV kV ho hd hcd hD hmg hg args vals as L hpre hlay hrd hwl hlo
 have KX:(Hd.K w.params).In s₁.heap:=(Hd.kx y).keeps L.keeps
 refine Ground.open G ?_
 intro T B D TE TW
 wrow_args hpre hlay hrd hwl hlo
 have hfa:fa=244:=by
  have e:=hmg.symm.trans (nJ KX T.g (show nsIn (Hd.K w.params) mainGlobals (ag "law")=some (some (.ref 244)) by kernel_rfl))
  cases e;rfl
 subst hfa
 all_lens
 rename_i ns _ _ _ _ _ _ _ _ _ _ _ _ _ _ _ hlen _ _ _
 clear hmg ho hD hcd hd y G B D TE TW
 have hlen':ns.length≤63:=by omega
 have hzK:(s₁.heap.get? sysModules).isSome=true:=by rw[KX sysModules (Hd.ob w.params sysModules) (by kernel_rfl)];rfl
 have tp:dG (P1 w s₁.heap (Hd.K w.params)) mg mb:=⟨KX,T.g,T.b,T.nolimit⟩
 have fn102:FnOk (P1 w s₁.heap (Hd.K w.params)) 102 (bG (cP (bG bA 6)) 1) (bdPos [0,1]):=FnOk.pos2 ⟨KX 102 (Hd.ob w.params 102) (by kernel_rfl),(show(Hd.ob w.params 102).data=cq (Hd.fdO (Hd.ob w.params 102)) by kernel_rfl),bY KX (by kernel_rfl),(by kernel_rfl),(by kernel_rfl),(by kernel_rfl),(by kernel_rfl),(by kernel_rfl),(by decide+kernel)⟩ (λx y=>by kernel_rfl)
 have fn146:FnOk (P1 w s₁.heap (Hd.K w.params)) 146 (bG (cP (bG bA 8)) 1) (bdPos [0,1]):=FnOk.pos2 ⟨KX 146 (Hd.ob w.params 146) (by kernel_rfl),(show(Hd.ob w.params 146).data=cq (Hd.fdO (Hd.ob w.params 146)) by kernel_rfl),bY KX (by kernel_rfl),(by kernel_rfl),(by kernel_rfl),(by kernel_rfl),(by kernel_rfl),(by kernel_rfl),(by decide+kernel)⟩ (λx y=>by kernel_rfl)
 have fn153:FnOk (P1 w s₁.heap (Hd.K w.params)) 153 (bG (cP (bG bA 8)) 2) (kD 0 1 4):=FnOk.star2 ⟨KX 153 (Hd.ob w.params 153) (by kernel_rfl),(show(Hd.ob w.params 153).data=cq (Hd.fdO (Hd.ob w.params 153)) by kernel_rfl),bY KX (by kernel_rfl),(by kernel_rfl),(by kernel_rfl),(by kernel_rfl),(by kernel_rfl),(by kernel_rfl),(by decide+kernel)⟩ (λx y rest=>by cases rest<;>kernel_rfl)
 have fn139:FnOk (P1 w s₁.heap (Hd.K w.params)) 139 (bG (cP (bG bA 8)) 0) (bdPos [0,10]):=FnOk.pos2d tp ⟨KX 139 (Hd.ob w.params 139) (by kernel_rfl),(show(Hd.ob w.params 139).data=cq (Hd.fdO (Hd.ob w.params 139)) by kernel_rfl),bY KX (by kernel_rfl),(by kernel_rfl),(by kernel_rfl),(by kernel_rfl),(by kernel_rfl),(by kernel_rfl),(by decide+kernel)⟩ (λs x y X=>kp_binds X (λS=>by kernel_rfl))
 have fn193:FnOk (P1 w s₁.heap (Hd.K w.params)) 193 (bG (cP (bG bA 8)) 8) (bdPos [0]):=FnOk.pos1 ⟨KX 193 (Hd.ob w.params 193) (by kernel_rfl),(show(Hd.ob w.params 193).data=cq (Hd.fdO (Hd.ob w.params 193)) by kernel_rfl),bY KX (by kernel_rfl),(by kernel_rfl),(by kernel_rfl),(by kernel_rfl),(by kernel_rfl),(by kernel_rfl),(by decide+kernel)⟩ (λx=>by kernel_rfl)
 have ownCE:OwnCls "CycleError" 121 [.type "ValueError",.type "Exception",.type "BaseException",.type "object"] "ValueError.__new__" mg s₁.heap:=own_of_in KX (topRead_of T) (by kernel_rfl) (by kernel_rfl)
 have fn158:FnOk (P1 w s₁.heap (Hd.K w.params)) 158 (bG (cP (bG bA 8)) 3) (bdPos [0]):=FnOk.pos1 ⟨KX 158 (Hd.ob w.params 158) (by kernel_rfl),(show(Hd.ob w.params 158).data=cq (Hd.fdO (Hd.ob w.params 158)) by kernel_rfl),bY KX (by kernel_rfl),(by kernel_rfl),(by kernel_rfl),(by kernel_rfl),(by kernel_rfl),(by kernel_rfl),(by decide+kernel)⟩ (λx=>by kernel_rfl)
 have fn165:FnOk (P1 w s₁.heap (Hd.K w.params)) 165 (bG (cP (bG bA 8)) 4) (bdPos [0]):=FnOk.pos1 ⟨KX 165 (Hd.ob w.params 165) (by kernel_rfl),(show(Hd.ob w.params 165).data=cq (Hd.fdO (Hd.ob w.params 165)) by kernel_rfl),bY KX (by kernel_rfl),(by kernel_rfl),(by kernel_rfl),(by kernel_rfl),(by kernel_rfl),(by kernel_rfl),(by decide+kernel)⟩ (λx=>by kernel_rfl)
 have fn172:FnOk (P1 w s₁.heap (Hd.K w.params)) 172 (bG (cP (bG bA 8)) 5) (bdPos [0]):=FnOk.pos1 ⟨KX 172 (Hd.ob w.params 172) (by kernel_rfl),(show(Hd.ob w.params 172).data=cq (Hd.fdO (Hd.ob w.params 172)) by kernel_rfl),bY KX (by kernel_rfl),(by kernel_rfl),(by kernel_rfl),(by kernel_rfl),(by kernel_rfl),(by kernel_rfl),(by decide+kernel)⟩ (λx=>by kernel_rfl)
 have fn186:FnOk (P1 w s₁.heap (Hd.K w.params)) 186 (bG (cP (bG bA 8)) 7) (kE 0 21):=FnOk.star1 ⟨KX 186 (Hd.ob w.params 186) (by kernel_rfl),(show(Hd.ob w.params 186).data=cq (Hd.fdO (Hd.ob w.params 186)) by kernel_rfl),bY KX (by kernel_rfl),(by kernel_rfl),(by kernel_rfl),(by kernel_rfl),(by kernel_rfl),(by kernel_rfl),(by decide+kernel)⟩ (λx rest=>by cases rest<;>kernel_rfl)
 have fn38:FnOk (P1 w s₁.heap (Hd.K w.params)) 38 (bG (cP (bG bA 2)) 1) (bdPos [0,25]):=FnOk.pos2 ⟨KX 38 (Hd.ob w.params 38) (by kernel_rfl),(show(Hd.ob w.params 38).data=cq (Hd.fdO (Hd.ob w.params 38)) by kernel_rfl),bY KX (by kernel_rfl),(by kernel_rfl),(by kernel_rfl),(by kernel_rfl),(by kernel_rfl),(by kernel_rfl),(by decide+kernel)⟩ (λx y=>by kernel_rfl)
 have fn45:FnOk (P1 w s₁.heap (Hd.K w.params)) 45 (bG (cP (bG bA 2)) 2) (bdPos [0]):=FnOk.pos1 ⟨KX 45 (Hd.ob w.params 45) (by kernel_rfl),(show(Hd.ob w.params 45).data=cq (Hd.fdO (Hd.ob w.params 45)) by kernel_rfl),bY KX (by kernel_rfl),(by kernel_rfl),(by kernel_rfl),(by kernel_rfl),(by kernel_rfl),(by kernel_rfl),(by decide+kernel)⟩ (λx=>by kernel_rfl)
 have fn52:FnOk (P1 w s₁.heap (Hd.K w.params)) 52 (bG (cP (bG bA 2)) 3) (bdPos [0,37]):=FnOk.pos2 ⟨KX 52 (Hd.ob w.params 52) (by kernel_rfl),(show(Hd.ob w.params 52).data=cq (Hd.fdO (Hd.ob w.params 52)) by kernel_rfl),bY KX (by kernel_rfl),(by kernel_rfl),(by kernel_rfl),(by kernel_rfl),(by kernel_rfl),(by kernel_rfl),(by decide+kernel)⟩ (λx y=>by kernel_rfl)
 have fn73:FnOk (P1 w s₁.heap (Hd.K w.params)) 73 (bG (cP (bG bA 2)) 6) (bdPos [0,39]):=FnOk.pos2 ⟨KX 73 (Hd.ob w.params 73) (by kernel_rfl),(show(Hd.ob w.params 73).data=cq (Hd.fdO (Hd.ob w.params 73)) by kernel_rfl),bY KX (by kernel_rfl),(by kernel_rfl),(by kernel_rfl),(by kernel_rfl),(by kernel_rfl),(by kernel_rfl),(by decide+kernel)⟩ (λx y=>by kernel_rfl)
 have fn59:FnOk (P1 w s₁.heap (Hd.K w.params)) 59 (bG (cP (bG bA 2)) 4) (bdPos [0,39]):=FnOk.pos2 ⟨KX 59 (Hd.ob w.params 59) (by kernel_rfl),(show(Hd.ob w.params 59).data=cq (Hd.fdO (Hd.ob w.params 59)) by kernel_rfl),bY KX (by kernel_rfl),(by kernel_rfl),(by kernel_rfl),(by kernel_rfl),(by kernel_rfl),(by kernel_rfl),(by decide+kernel)⟩ (λx y=>by kernel_rfl)
 have fn212:FnOk (P1 w s₁.heap (Hd.K w.params)) 212 (bG bA 10) (bdPos [44]):=FnOk.pos1 ⟨KX 212 (Hd.ob w.params 212) (by kernel_rfl),(show(Hd.ob w.params 212).data=cq (Hd.fdO (Hd.ob w.params 212)) by kernel_rfl),bY KX (by kernel_rfl),(by kernel_rfl),(by kernel_rfl),(by kernel_rfl),(by kernel_rfl),(by kernel_rfl),(by decide+kernel)⟩ (λx=>by kernel_rfl)
 have fn217:FnOk (P1 w s₁.heap (Hd.K w.params)) 217 (bG bA 11) (bdPos [51]):=FnOk.pos1 ⟨KX 217 (Hd.ob w.params 217) (by kernel_rfl),(show(Hd.ob w.params 217).data=cq (Hd.fdO (Hd.ob w.params 217)) by kernel_rfl),bY KX (by kernel_rfl),(by kernel_rfl),(by kernel_rfl),(by kernel_rfl),(by kernel_rfl),(by kernel_rfl),(by decide+kernel)⟩ (λx=>by kernel_rfl)
 have fn222:FnOk (P1 w s₁.heap (Hd.K w.params)) 222 (bG bA 12) (bdPos [51,1]):=FnOk.pos2 ⟨KX 222 (Hd.ob w.params 222) (by kernel_rfl),(show(Hd.ob w.params 222).data=cq (Hd.fdO (Hd.ob w.params 222)) by kernel_rfl),bY KX (by kernel_rfl),(by kernel_rfl),(by kernel_rfl),(by kernel_rfl),(by kernel_rfl),(by kernel_rfl),(by decide+kernel)⟩ (λx y=>by kernel_rfl)
 have fn229:FnOk (P1 w s₁.heap (Hd.K w.params)) 229 (bG bA 13) (bdPos [65,66]):=FnOk.pos2 ⟨KX 229 (Hd.ob w.params 229) (by kernel_rfl),(show(Hd.ob w.params 229).data=cq (Hd.fdO (Hd.ob w.params 229)) by kernel_rfl),bY KX (by kernel_rfl),(by kernel_rfl),(by kernel_rfl),(by kernel_rfl),(by kernel_rfl),(by kernel_rfl),(by decide+kernel)⟩ (λx y=>by kernel_rfl)
 have fn234:FnOk (P1 w s₁.heap (Hd.K w.params)) 234 (bG bA 14) (bdPos [65]):=FnOk.pos1 ⟨KX 234 (Hd.ob w.params 234) (by kernel_rfl),(show(Hd.ob w.params 234).data=cq (Hd.fdO (Hd.ob w.params 234)) by kernel_rfl),bY KX (by kernel_rfl),(by kernel_rfl),(by kernel_rfl),(by kernel_rfl),(by kernel_rfl),(by kernel_rfl),(by decide+kernel)⟩ (λx=>by kernel_rfl)
 have fn239:FnOk (P1 w s₁.heap (Hd.K w.params)) 239 (bG bA 15) (bdPos [64,70]):=FnOk.pos2 ⟨KX 239 (Hd.ob w.params 239) (by kernel_rfl),(show(Hd.ob w.params 239).data=cq (Hd.fdO (Hd.ob w.params 239)) by kernel_rfl),bY KX (by kernel_rfl),(by kernel_rfl),(by kernel_rfl),(by kernel_rfl),(by kernel_rfl),(by kernel_rfl),(by decide+kernel)⟩ (λx y=>by kernel_rfl)
 have fn244:FnOk (P1 w s₁.heap (Hd.K w.params)) 244 (bG bA 16) (bdPos [76]):=FnOk.pos1 ⟨KX 244 (Hd.ob w.params 244) (by kernel_rfl),(show(Hd.ob w.params 244).data=cq (Hd.fdO (Hd.ob w.params 244)) by kernel_rfl),bY KX (by kernel_rfl),(by kernel_rfl),(by kernel_rfl),(by kernel_rfl),(by kernel_rfl),(by kernel_rfl),(by decide+kernel)⟩ (λx=>by kernel_rfl)
 have F:im w s₁.heap (Hd.K w.params) mg mb:={
  tp:=tp
  hz:=hzK
  hset:=uM
  at__NodeInfo_node:={toClsP:=⟨(by kernel_rfl),(by kernel_rfl),(by kernel_rfl),(by kernel_rfl)⟩,p:=⟨107,λ_=>by kernel_rfl,(by kernel_rfl),(by kernel_rfl),(by kernel_rfl)⟩,lt:=by decide}
  at__NodeInfo_npredecessors:={toClsP:=⟨(by kernel_rfl),(by kernel_rfl),(by kernel_rfl),(by kernel_rfl)⟩,p:=⟨108,λ_=>by kernel_rfl,(by kernel_rfl),(by kernel_rfl),(by kernel_rfl)⟩,lt:=by decide}
  at__NodeInfo_successors:={toClsP:=⟨(by kernel_rfl),(by kernel_rfl),(by kernel_rfl),(by kernel_rfl)⟩,p:=⟨109,λ_=>by kernel_rfl,(by kernel_rfl),(by kernel_rfl),(by kernel_rfl)⟩,lt:=by decide}
  fn_NodeInfo_init:=fn102
  at_TS__node2info:={toClsP:=⟨(by kernel_rfl),(by kernel_rfl),(by kernel_rfl),(by kernel_rfl)⟩,free:=(by kernel_rfl),hd:=(by kernel_rfl)}
  mk__NodeInfo:=⟨(by kernel_rfl),(by kernel_rfl),(by kernel_rfl)⟩
  kp__NodeInfo:=(by kernel_rfl)
  g__NodeInfo:=nJ KX T.g (by kernel_rfl)
  fn_TS__get_nodeinfo:=fn146
  at_TS__ready_nodes:={toClsP:=⟨(by kernel_rfl),(by kernel_rfl),(by kernel_rfl),(by kernel_rfl)⟩,free:=(by kernel_rfl),hd:=(by kernel_rfl)}
  mt_TS__get_nodeinfo:={toClsP:=⟨(by kernel_rfl),(by kernel_rfl),(by kernel_rfl),(by kernel_rfl)⟩,fn:=(by kernel_rfl),ty:=(by kernel_rfl)}
  kp_TS__get_nodeinfo:=(by kernel_rfl)
  b_len:=(T.builtins _ (by decide+kernel)).trans (by kernel_rfl)
  n_len:=dw KX T.g (by kernel_rfl)
  fn_TS_add:=fn153
  at_TS__npassedout:={toClsP:=⟨(by kernel_rfl),(by kernel_rfl),(by kernel_rfl),(by kernel_rfl)⟩,free:=(by kernel_rfl),hd:=(by kernel_rfl)}
  at_TS__nfinished:={toClsP:=⟨(by kernel_rfl),(by kernel_rfl),(by kernel_rfl),(by kernel_rfl)⟩,free:=(by kernel_rfl),hd:=(by kernel_rfl)}
  mt_TS_add:={toClsP:=⟨(by kernel_rfl),(by kernel_rfl),(by kernel_rfl),(by kernel_rfl)⟩,fn:=(by kernel_rfl),ty:=(by kernel_rfl)}
  sg_TS_add:=(by kernel_rfl)
  tk_TS_add:=(by kernel_rfl)
  ci_TS:=(by kernel_rfl)
  fi_TS_add:=(by kernel_rfl)
  fn_TS_init:=fn139
  b_set:=(T.builtins _ (by decide+kernel)).trans (by kernel_rfl)
  n_set:=dw KX T.g (by kernel_rfl)
  b_iter:=(T.builtins _ (by decide+kernel)).trans (by kernel_rfl)
  n_iter:=dw KX T.g (by kernel_rfl)
  mat0:=B7.built (P:=P1 w s₁.heap (Hd.K w.params)) (by rw[gP];kernel_rfl) (by rw[gP];kernel_rfl) (by rw[gP];kernel_rfl)
  b_StopIteration:=(T.builtins _ (by decide+kernel)).trans (by kernel_rfl)
  n_StopIteration:=dw KX T.g (by kernel_rfl)
  fn_TS__find_cycle:=fn193
  mt_TS__find_cycle:={toClsP:=⟨(by kernel_rfl),(by kernel_rfl),(by kernel_rfl),(by kernel_rfl)⟩,fn:=(by kernel_rfl),ty:=(by kernel_rfl)}
  kp_TS__find_cycle:=(by kernel_rfl)
  own_CE:=ownCE
  g_CycleError:=nJ KX T.g (by kernel_rfl)
  fn_TS_prepare:=fn158
  b_tuple:=(T.builtins _ (by decide+kernel)).trans (by kernel_rfl)
  n_tuple:=dw KX T.g (by kernel_rfl)
  g__NODE_OUT:=wS KX T.g (by kernel_rfl)
  fn_TS_get_ready:=fn165
  b_bool:=(T.builtins _ (by decide+kernel)).trans (by kernel_rfl)
  n_bool:=dw KX T.g (by kernel_rfl)
  fn_TS_is_active:=fn172
  g__NODE_DONE:=wS KX T.g (by kernel_rfl)
  fn_TS_done:=fn186
  at_Whitespace_raw:={toClsP:=⟨(by kernel_rfl),(by kernel_rfl),(by kernel_rfl),(by kernel_rfl)⟩,free:=(by kernel_rfl),hd:=(by kernel_rfl)}
  ca_Whitespace_S:=wQ (by kernel_rfl)
  rd_Whitespace:=(by kernel_rfl)
  g_Whitespace:=nJ KX T.g (by kernel_rfl)
  ca_Whitespace_T:=wQ (by kernel_rfl)
  at_Whitespace_n:={toClsP:=⟨(by kernel_rfl),(by kernel_rfl),(by kernel_rfl),(by kernel_rfl)⟩,free:=(by kernel_rfl),hd:=(by kernel_rfl)}
  at_Whitespace_nt:={toClsP:=⟨(by kernel_rfl),(by kernel_rfl),(by kernel_rfl),(by kernel_rfl)⟩,free:=(by kernel_rfl),hd:=(by kernel_rfl)}
  at_Whitespace_norm:={toClsP:=⟨(by kernel_rfl),(by kernel_rfl),(by kernel_rfl),(by kernel_rfl)⟩,free:=(by kernel_rfl),hd:=(by kernel_rfl)}
  at_Whitespace_is_simple:={toClsP:=⟨(by kernel_rfl),(by kernel_rfl),(by kernel_rfl),(by kernel_rfl)⟩,free:=(by kernel_rfl),hd:=(by kernel_rfl)}
  fn_Whitespace_init:=fn38
  b_max:=(T.builtins _ (by decide+kernel)).trans (by kernel_rfl)
  n_max:=dw KX T.g (by kernel_rfl)
  fn_Whitespace_longest_run_of_spaces:=fn45
  b_range:=(T.builtins _ (by decide+kernel)).trans (by kernel_rfl)
  n_range:=dw KX T.g (by kernel_rfl)
  fn_Whitespace_indent_level:=fn52
  mt_Whitespace_longest_run_of_spaces:={toClsP:=⟨(by kernel_rfl),(by kernel_rfl),(by kernel_rfl),(by kernel_rfl)⟩,fn:=(by kernel_rfl),ty:=(by kernel_rfl)}
  kp_Whitespace_longest_run_of_spaces:=(by kernel_rfl)
  mt_Whitespace_indent_level:={toClsP:=⟨(by kernel_rfl),(by kernel_rfl),(by kernel_rfl),(by kernel_rfl)⟩,fn:=(by kernel_rfl),ty:=(by kernel_rfl)}
  kp_Whitespace_indent_level:=(by kernel_rfl)
  fn_Whitespace_less:=fn73
  fn_Whitespace_equal:=fn59
  mt_Whitespace_less:={toClsP:=⟨(by kernel_rfl),(by kernel_rfl),(by kernel_rfl),(by kernel_rfl)⟩,fn:=(by kernel_rfl),ty:=(by kernel_rfl)}
  kp_Whitespace_less:=(by kernel_rfl)
  mt_Whitespace_equal:={toClsP:=⟨(by kernel_rfl),(by kernel_rfl),(by kernel_rfl),(by kernel_rfl)⟩,fn:=(by kernel_rfl),ty:=(by kernel_rfl)}
  kp_Whitespace_equal:=(by kernel_rfl)
  fn_law_best:=fn212
  mk_TS:=⟨(by kernel_rfl),(by kernel_rfl),(by kernel_rfl)⟩
  kp_TS:=(by kernel_rfl)
  g_TS:=nJ KX T.g (by kernel_rfl)
  mt_TS_prepare:={toClsP:=⟨(by kernel_rfl),(by kernel_rfl),(by kernel_rfl),(by kernel_rfl)⟩,fn:=(by kernel_rfl),ty:=(by kernel_rfl)}
  kp_TS_prepare:=(by kernel_rfl)
  mt_TS_is_active:={toClsP:=⟨(by kernel_rfl),(by kernel_rfl),(by kernel_rfl),(by kernel_rfl)⟩,fn:=(by kernel_rfl),ty:=(by kernel_rfl)}
  kp_TS_is_active:=(by kernel_rfl)
  mt_TS_get_ready:={toClsP:=⟨(by kernel_rfl),(by kernel_rfl),(by kernel_rfl),(by kernel_rfl)⟩,fn:=(by kernel_rfl),ty:=(by kernel_rfl)}
  kp_TS_get_ready:=(by kernel_rfl)
  mk_Whitespace:=⟨(by kernel_rfl),(by kernel_rfl),(by kernel_rfl)⟩
  kp_Whitespace:=(by kernel_rfl)
  kp_law_best:=(by kernel_rfl)
  g__law_best:=nJ KX T.g (by kernel_rfl)
  mt_TS_done:={toClsP:=⟨(by kernel_rfl),(by kernel_rfl),(by kernel_rfl),(by kernel_rfl)⟩,fn:=(by kernel_rfl),ty:=(by kernel_rfl)}
  sg_TS_done:=(by kernel_rfl)
  tk_TS_done:=(by kernel_rfl)
  fi_TS_done:=(by kernel_rfl)
  fn_law_kept:=fn217
  kp_law_ways:=(by kernel_rfl)
  g__law_ways:=nJ KX T.g (by kernel_rfl)
  fn_law_ways:=fn222
  fn_law_column:=fn229
  b_sorted:=(T.builtins _ (by decide+kernel)).trans (by kernel_rfl)
  n_sorted:=dw KX T.g (by kernel_rfl)
  fn_law_bag:=fn234
  kp_law_column:=(by kernel_rfl)
  g__law_column:=nJ KX T.g (by kernel_rfl)
  b_zip:=(T.builtins _ (by decide+kernel)).trans (by kernel_rfl)
  n_zip:=dw KX T.g (by kernel_rfl)
  kp_law_bag:=(by kernel_rfl)
  g__law_bag:=nJ KX T.g (by kernel_rfl)
  fn_law_due:=fn239
  b_min:=(T.builtins _ (by decide+kernel)).trans (by kernel_rfl)
  n_min:=dw KX T.g (by kernel_rfl)
  b_sum:=(T.builtins _ (by decide+kernel)).trans (by kernel_rfl)
  n_sum:=dw KX T.g (by kernel_rfl)
  b_abs:=(T.builtins _ (by decide+kernel)).trans (by kernel_rfl)
  n_abs:=dw KX T.g (by kernel_rfl)
  kp_law_kept:=(by kernel_rfl)
  g__law_kept:=nJ KX T.g (by kernel_rfl)
  b_isinstance:=(T.builtins _ (by decide+kernel)).trans (by kernel_rfl)
  n_isinstance:=dw KX T.g (by kernel_rfl)
  kp_law_due:=(by kernel_rfl)
  g__law_due:=nJ KX T.g (by kernel_rfl)
  fn_law:=fn244}
 obtain⟨vs,hpl,hia⟩:=qP L
 exact Ee (Cw F) (by decide) rfl hg hpl hia (Bc ns hlen') (λ_=>rfl) (by first|kernel_rfl|wrow_post)
