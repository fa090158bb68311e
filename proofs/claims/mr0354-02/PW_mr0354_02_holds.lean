import PyProof.Rows.All
import Wide.All
import OpenK.AllK
import Wide.FinOn
import PySem.Challenge.RW_mr0354_02
set_option Elab.async false
set_option tactic.hygienic false
set_option genSizeOf false
set_option genSizeOfSpec false
set_option linter.unusedVariables false
set_option linter.unusedSimpArgs false
set_option maxRecDepth 100000
open And renaming intro->Gg
open Array renaming eq_empty_of_size_eq_zero->oK,find?->C0,find?_toList->wZ,getElem?_eq_none_iff->qy,getElem?_eq_some_iff->dB,getElem?_mapIdx->tW,getElem?_toList->cL,isEmpty_eq_false_iff->qx,length_toList->jj,replicate->pR,size_map->A2,toList_append->jh,toList_inj->zF,toList_push->xe,toList_setIfInBounds->qw
open Bool renaming and_eq_true->bv,and_eq_true_iff->vG,exists_bool->dw,false_and->BE,false_eq_true->cC,false_ne_true->bL,not_eq_true'->gf,not_false->BD,or_comm->CZ,or_eq_true->A1
open Classical renaming byContradiction->jB,not_forall->GM,not_not->tV
open Eq renaming trans->CQ
open ForInStep renaming yield->gG
open Function renaming comp->GY,comp_def->uR
open Int renaming add_assoc->tI,add_comm->oF,add_sub_cancel->j1,le_add_of_nonneg_left->sF,le_antisymm->qk,le_of_lt->oE,le_refl->vU,le_total->DZ,le_trans->fO,lt_iff_le_and_ne->wX,lt_irrefl->CX,lt_of_le_of_lt->zE,lt_of_lt_of_le->j0,lt_or_gt_of_ne->zD,lt_trans->oC,max_eq_left->BB,max_eq_right->gN,natCast_nonneg->aN,not_lt->Fn,ofNat_le->bC,ofNat_lt->dm,sub_le_self->BA,sub_nonneg_of_le->mD,sub_sub->El,sub_zero->ut,toNat_natCast->c7,toNat_of_nonneg->jD
open Int.ofNat renaming inj->gE
open List renaming all_cons->sB,all_eq_true->bY,any_cons->kh,any_eq_false->zC,any_eq_true->kL,append_assoc->b7,append_nil->bD,cons_append->dq,count_append->zA,count_cons->fP,count_eq_zero->dN,dropLast_concat->vE,drop_drop->Bx,drop_eq_getElem_cons->sv,drop_length->o6,drop_of_length_le->tT,drop_sublist->zy,drop_take->Bw,ext_getElem?->kc,filterMap_cons->wV,filter_append->w9,filter_congr->zx,filter_cons->aU,filter_eq_nil_iff->dC,filter_eq_self->cm,filter_map->p8,filter_nil->p7,find?_append->cZ,find?_cons->cF,find?_eq_none->jN,flatMap_append->wU,flatMap_cons->f9,flatMap_def->zJ,flatMap_eq_nil_iff->tP,flatten_append->wT,flatten_cons->iA,foldl->iU,foldl_cons->dZ,forIn_cons->p6,getD_eq_getElem?_getD->aX,getElem?_drop->jM,getElem?_eq_getElem->au,getElem?_eq_none->c8,getElem?_eq_none_iff->sk,getElem?_eq_some_iff->bA,getElem?_map->e7,getElem?_range->mJ,getElem?_take->nq,getElem_idxOf->cf,getElem_inj->zI,getElem_map->kK,getElem_mem->iX,getElem_zipWith->vD,idxOf_append->zw,idxOf_lt_length_of_mem->bh,length->pI,length_append->aJ,length_cons->aD,length_drop->iW,length_eq_one_iff->kX,length_eq_zero_iff->kN,length_erase_of_mem->sE,length_filter_le->bj,length_map->aj,length_nil->dY,length_pos_iff->mI,length_pos_of_mem->tS,length_range->aK,length_range'->nk,length_replicate->eU,length_reverse->mH,length_singleton->lP,length_take->o5,length_zipWith->wS,lookup->j9,lookup_cons->eG,map->gp,map_append->dG,map_congr_left->gQ,map_cons->ar,map_drop->i4,map_flatMap->kJ,map_map->bF,map_nil->dR,map_take->m5,mem_append->aL,mem_append_left->cz,mem_append_right->eS,mem_cons->am,mem_cons_of_mem->aq,mem_cons_self->ak,mem_filter->aO,mem_filterMap->w8,mem_flatMap->dM,mem_flatten->kI,mem_iff_getElem->md,mem_iff_getElem?->fU,mem_map->ay,mem_of_getElem?->dx,mem_of_mem_drop->mc,mem_of_mem_take->vC,mem_range->aW,mem_range'_1->bc,mem_replicate->ni,mem_singleton->hV,mergeSort_perm->jz,nil_append->a8,nodup_append->bg,nodup_cons->aP,nodup_range->iV,nodup_range'->zv,not_mem_nil->zH,pairwise_cons->w7,pairwise_iff_getElem->j2,pairwise_lt_range->tR,pairwise_map->eZ,pairwise_mergeSort->tO,perm_ext_iff_of_nodup->qY,range->az,range'->bn,range'_succ->kH,range_eq_range'->vB,range_succ->pZ,replicate->aB,replicate_succ->cV,reverse_cons->kb,set_cons_succ->w6,set_cons_zero->w5,sum_append->A0,sum_cons->bG,toArray->CW,zipIdx_cons->zG,zipWith->CV
open List.Pairwise renaming map->qZ
open List.Perm renaming append_left->GL,cons_inv->GK,eq_of_pairwise->GJ,of_eq->GI,trans->vF
open List.cons renaming inj->xc,injEq->iR
open Nat renaming add->Dy,add_add_add_comm->wR,add_assoc->bK,add_comm->bu,add_eq_zero_iff->nc,add_le_add->bN,add_le_add_left->dF,add_le_add_right->bI,add_lt_add_of_lt_of_le->sj,add_lt_of_lt_sub->mC,add_mul->mr,add_right_comm->ba,add_sub_of_le->gh,div_eq_of_lt->AZ,div_le_self->Bv,eq_zero_of_le_zero->uQ,exists_eq_add_of_le->d0,exists_eq_succ_of_ne_zero->fL,le_add_left->cP,le_add_of_sub_le->wQ,le_add_right->aM,le_antisymm->fR,le_max_left->jx,le_max_right->fG,le_of_add_le_add_right->si,le_of_ble_eq_true->aV,le_of_eq->ax,le_of_lt->dD,le_of_lt_succ->cM,le_of_not_le->eH,le_of_not_lt->bZ,le_of_succ_le->cw,le_refl->b8,le_sub_of_add_le->wP,le_succ->gC,le_succ_of_le->cu,le_trans->ac,lt_irrefl->dh,lt_of_le_of_lt->bM,lt_of_le_of_ne->eQ,lt_of_lt_of_le->aE,lt_of_not_le->cS,lt_of_succ_lt_succ->lE,lt_succ_of_le->c0,lt_succ_of_lt->iE,lt_succ_self->ct,lt_trans->ur,max_eq_left->jw,max_eq_right->i5,max_le->ig,min_eq_left->hU,min_eq_right->AY,min_le_right->kS,mul_add->vT,mul_le_mul_left->cr,mul_one->Ek,mul_succ->oB,mul_zero->DY,ne_of_gt->e9,ne_of_lt->cR,not_lt->fN,not_lt_of_le->cK,not_lt_zero->lO,not_succ_le_self->fe,one_mul->pY,sub_add_cancel->nZ,sub_eq_of_eq_add->wO,sub_le->ie,sub_le_of_le_add->mB,sub_le_sub_right->mA,sub_lt_sub_right->my,succ->BZ,succ_le_succ->aI,succ_pos->oA,zero_add->bH,zero_le->bx
open Nat.succ renaming inj->mG
open Ne renaming symm->aS
open Option renaming bind_eq_some_iff->kj,bind_some->d7,isSome_iff_exists->qX,map_eq_some_iff->dA,map_some->dE,none->ae
open Option.some renaming inj->m9,injEq->eJ
open Prod renaming ext->Bp
open Prod.mk renaming inj->eX,injEq->qj
open PyProof.Rows renaming IntsAre->qg,OwnCls->EU,SortKind->zW,add_int->EG,add_str->EF,floordiv_int->EE,ge_int->ED,getItem_tuple->Gd,le_int->EC,listUpdate_at->Gb,loadName_read->ly,lt_int->qu,mod_int->EB,mul_int->EA,neg_int->Ez,room_in_shaped->Fh,seqEpoch_at->GR,sortedAll_at->GE,sortedAll_old->F9,sub_int->Ey,tail_any->zV,truthy_int->Ex
open PyProof.Rows.SortSt renaming mk'->vy
open PySem renaming Around->aC,Comprehension->cB,IsRange->CP,IsZip->kn,OsState->CO,Params->nB,Result->rc,Shared->af,Slot->C8,World->d5,arm_eval_Attribute->kF,arm_eval_Call->Gf,builtinLookup_eq_fast->gF,call_meets->fX,call_meetsIn->yr,codeAny_builtin->Ej,codeAny_call_builtin->nY,codeAny_loop->GF,codeAny_mono->mq,codeAny_of_tree->Ei,entryFor_of_tree->DX,entry_listiter_next->Bt,eval_ListComp->Ge,getMethod_builtin->qi,intBits_le_64->Gc,intKind_is->kr,isSubtype_type->i3,nums_intItems->Ga,pushCells_keeps->Eh,sizeLine_eq->jF,slot_list_getitem->CU,slot_list_setitem->CT,slot_listiter_next->CF,typeIs_str->uo,typeLookup_type->jV,wpAny_Constant_none->Br,wpAny_askSetting->DW,wpAny_assignInOrder_more->lD,wpAny_attempt->F8,wpAny_bindName->Fg,wpAny_call_entry->jv,wpAny_comprehension_free->lC,wpAny_eqBool_int->DV,wpAny_execs_nil->tH,wpAny_field->ci,wpAny_handled->vS,wpAny_isTrue_BoolOp->Bq,wpAny_is_plain->Ff,wpAny_letTemporaryGo->jG,wpAny_loadPart->uq,wpAny_mkText->GD,wpAny_newList->F7,wpAny_newObj_type->d6,wpAny_newTuple->Fe,wpAny_noted->GQ,wpAny_onRaise->F6,wpAny_pyIter_list->kW,wpAny_pyIter_range->CE,wpAny_pyIter_zip->DU,wpAny_release->F5,wpAny_seqItems->gS,wpAny_sequenceKey->CS,wpAny_setField->kB,wpAny_throw->zY,wpAny_truthy_list->CR,wpAny_updatePart->DR
open PySem.AutoIntOps renaming iadd_0->Gp,isub_0->Go
open PySem.AutoListH renaming list___mul___list_int_3->GO
open PySem.AutoRange renaming range_iterator___next___range_iterator_1->GN
open PySem.AutoSeq1 renaming list_clear_list_0->GZ
open PySem.Builtin renaming divisionGoesByPylong->oJ
open PySem.Builtin.List renaming listFitsIndex->EJ,listSubscript?->EI,listTooLong->EH
open PySem.Builtin.Range renaming rangeFitsLong->Ee,rangeSize->b9,small->bQ
open PySem.Builtin.SmallTypes renaming nextOf->bE,ownedTupleHandOut->jQ,ownedTupleIsFree->dL
open PySem.Builtin.Str renaming occurrences->o7,partsBetween->FU,strKind->q8,tooLong->FT
open PySem.Calls renaming loadGlobal_builtin->CG,loadGlobal_global->qh
open PySem.Code renaming builtin->CY,quiet_builtin->xd
open PySem.Data renaming func->cQ
open PySem.DictEntry renaming refKey->uS
open PySem.EntryCells renaming newEntry->Gn
open PySem.Env renaming kindOf->Fp
open PySem.Heap renaming ExtBut->vA,IsList->D0,MadeExcOf->BC,SameBut->bP,get?->Fo,get?_push_of_some->an,get?_push_size->aw,get?_update_ne->wY,get?_update_other->tU,get?_update_self->cj,lt_size->bJ,size_push->c9,size_update->zL
open PySem.Heap.DictOf renaming new->FR
open PySem.Heap.ExtBut renaming refl->FQ
open PySem.Heap.IsList renaming push->mE,typeIs->FP
open PySem.Heap.IsSliceOf renaming new->C7
open PySem.Heap.SameBut renaming update->bS
open PySem.IntMulOk renaming of_left->GX,of_right->GV
open PySem.IsL renaming update->Fm
open PySem.IsRange renaming new->Bz
open PySem.Keeper renaming boundFrame->wW,frame->By,machine->zK
open PySem.Manifest renaming find?->GU
open PySem.NameKind renaming cell->a9,free->b6
open PySem.Obj renaming data_mapFields->eP,isFreed_of_fields->iY,mapFields->de,mapSeq->dQ,putNameByArray->jZ,putName_eq->mx
open PySem.PyData renaming canLay0->fp,canLayAll0->fS,depth->gu,depthAll->gU,eqv->cy,eqvAll->AX,int->jC
open PySem.SeqAt renaming canLay_of_shaped->d4,readOf->kR,shaped->bO
open PySem.Shared renaming heap->CH
open PySem.Str renaming append->Fj,join->GG,length->Fi,ofString->ah
open PySem.Txt renaming mul->GT,split->tQ
open PySem.Value renaming none->bf,ref->dK,type->hP
open PySem.Value.ref renaming injEq->GH
open PySem.W renaming InitBack->zX,KatTups->Gq,Looks->GP,boot_heap->lU,codeRec_of->cH,handedOut_of->yq,kas_item->EV,looks_clsIn->GS,looks_field->sy,mg_of->oL,ns_none_of->fF
open PySem.W.Fast renaming te10110043849684766642->qv,te14364793385576792824->d8,te5923862056798008813->q7
open PySem.W.KF renaming slot_mset->vz
open PySem.W.Looks renaming ld->Fk,of_pure->ka
open PySem.W.OpenLaw renaming row->Bu
namespace Mine
theorem Ef{a b:Nat}(h:a≤b):a<1+b:=bu b 1▸c0 h
theorem Gw{a b:Nat}(h:a≤b+1):a<2+b:=bu b 2▸c0 h
theorem FX{a b:Nat}(h:a<1+b):a≤b:=cM (aE h (ax (bu 1 b)))
theorem Gx{a b:Nat}(h:a<2+b):a≤b+1:=cM (aE h (ax (bu 2 b)))
theorem Al{a b:Nat}(h:a - 1<b - 1):a<b:=cS λk=>cK (mA k 1) h
theorem Cj{a b c:Nat}(h:a - c<b - c):a<b:=cS λk=>cK (mA k c) h
theorem Dl(a b:Nat):((max a b:Nat):Int)=max (a:Int) b:=by
 by_cases h:a≤b
 ·rw[i5 h,gN (bC.mpr h)]
 ·rw[jw (eH h),BB (bC.mpr (eH h))]
theorem vP{z:Int}{n:Nat}(h:0≤z∧z<n):z.toNat<n:=(Int.toNat_lt h.1).mpr h.2
theorem A6{z:Int}(h:0≤z):z=(z.toNat:Int):=(jD h).symm
theorem FW{a b c:Nat}(h:c≤a)(h2:a<b):a - c<b - c:=my h h2
theorem BN{a b:Nat}(h:b≤a):((a:Int) - b)=((a - b:Nat):Int):=(Int.ofNat_sub h).symm
theorem rin{j t n:Nat}(h:t≤j∧j<t+(n - t)):j<n:=by
 obtain⟨k,e⟩:=d0 h.1
 rw[e]at h⊢
 exact bu k t▸mC (Nat.lt_of_add_lt_add_left h.2)
theorem z0{a b c:Nat}(h:a+b=c)(h2:(c:Int)≤b):a=0:=uQ (si (ac (ax h) (ac (bC.mp h2) (ax (bH b).symm))))
theorem z1{a b c:Nat}(h:a+b=c)(h2:c=0):a=0:=(nc.mp (h.trans h2)).1
theorem iz(n:Nat):(n:Int)=0↔n=0:=⟨λe=>gE e,λe=>congrArg Int.ofNat e⟩
theorem Fa{x k:Int}(c:¬x - 1=0):1≤x - 1∧x - 1≤k↔1≤x∧x≤k+1:=
 ⟨λh=>⟨fO h.1 (BA _ (by decide)),Int.le_add_of_sub_right_le h.2⟩,λh=>⟨wX.mpr ⟨mD h.1,aS c⟩,Int.sub_right_le_of_le_add h.2⟩⟩
theorem Fb{x:Int}{k:Nat}(c:x - 1=0):1≤x∧x≤k+1:=by
 cases Int.sub_eq_zero.mp c;exact⟨vU _,sF (aN _)⟩
theorem rin2{r t n:Nat}(h:t≤r)(h2:r<n):t≤r∧r<t+(n - t):=⟨h,aE h2 (ax (gh (ac h (dD h2))).symm)⟩
theorem yV(c b:Nat):((max (c - 1) b:Nat):Int)=max ((c:Int) - 1) b:=by
 rw[Dl]
 cases c with
 |zero=>exact(gN (aN b)).trans (gN (fO (by decide:((0:Nat):Int) - 1≤0) (aN b))).symm
 |succ c=>exact congrArg (λz=>max z (b:Int)) (j1 (c:Int) 1).symm
theorem At(a b:Nat):max (a:Int) (b:Int)+1=((max a b+1:Nat):Int):=congrArg (·+1) (Dl a b).symm
theorem zR{k:Int}(n:Nat)(h:k<0):k<n:=j0 h (aN n)
theorem sG{k:Int}{n m:Nat}(h:n≤m)(h2:(m:Int)<k):(n:Int)<k:=zE (bC.mpr h) h2
theorem yH{α:Type}(xs:List α)(x:α)(n:Nat):(xs++[x]).length+n=xs.length+(n+1):=by rw[aJ,bK];exact congrArg _ (bu 1 n)
theorem jI{α:Type}{xs:List α}{x:α}{n k:Nat}(h:xs.length+(n+1)≤k):(xs++[x]).length+n≤k:=ac (ax (yH xs x n)) h
theorem BL{n:Nat}(hn:n=4∨n=5∨n=6):n≤6:=hn.elim (λh=>ac (ax h) (by decide)) λh=>h.elim (λh=>ac (ax h) (by decide)) ax
theorem n2{n:Nat}(hn:n=4∨n=5∨n=6):2≤n:=hn.elim (λh=>ac (by decide) (ax h.symm)) λh=>h.elim (λh=>ac (by decide) (ax h.symm)) λh=>ac (by decide) (ax h.symm)
theorem xi{a b:Nat}(h:a≤b):0+a≤b:=ac (ax (bH a)) h
open PySem PySem.W PyProof.Rows
inductive V where
 |none
 |bool (b:Bool)
 |int (i:Int)
 |str (l:List Nat)
 |tup (vs:List V)
 |lst (vs:List V)
 |obj (C:Addr) (fs:List (Nat×V))
 |ref (a:Addr)
 |fn (x:Value)
 |rng (lo hi:Int)
 |vals (a:Addr)
 |nxt (a:Addr)
inductive O where
 |lst (vs:List V)
 |dict (es:List (Int×V)) (ep:Nat)
 |inst (C:Addr) (d:Addr)
 |ns (fs:List (Nat×V))
 |sl (C:Addr) (vs:List (Option V))
 |it (l:Addr) (k:Nat)
 |set (xs:List Int)
 |fld
 |zip (TI TO:Addr) (is:List Addr)
 |own (n:Nat)
 |itl (us:List V)
 |itr (lo hi:Int)
noncomputable abbrev Hp:=Addr→Option O
noncomputable abbrev bk:=Nat→Option V
noncomputable def upd{α:Type}(f:Nat→Option α)(i:Nat)(v:α):Nat→Option α:=λj=>if j=i then some v else f j
noncomputable def del{α:Type}(f:Nat→Option α)(i:Nat):Nat→Option α:=λj=>if j=i then ae else f j
@[simp] theorem upd_same{α:Type}(f:Nat→Option α)(i:Nat)(v:α):upd f i v i=some v:=by simp[upd]
theorem upd_ne{α:Type}{f:Nat→Option α}{i j:Nat}{v:α}(h:j≠i):upd f i v j=f j:=by simp[upd,h]
@[simp] theorem zh{α:Type}(f:Nat→Option α)(i:Nat):del f i i=ae:=by simp[del]
theorem del_ne{α:Type}{f:Nat→Option α}{i j:Nat}(h:j≠i):del f i j=f j:=by simp[del,h]
noncomputable def vJ(h:Heap)(d:Addr)(m:Str→Option Value)(c:Nat):Prop:=
 ∃es n,h.get? d=some {cls:=.type "dict",data:=.dict es n}∧es.size≤c∧StrKeys es∧∀name,nsFind es name=m name
noncomputable def vR(h:Heap)(a:Addr)(xs:Array Value):Prop:=∃n,h.get? a=some {cls:=.type "tuple",data:=.seq xs n}
section
variable(nm:Nat→Str)
mutual
noncomputable def VR(F:Addr→Prop)(h:Heap):V→Value→Prop
 | .none,x=>x= .none
 | .bool b,x=>x= .bool b
 | .int i,x=>∃t,x= .int i t
 | .str l,x=>∃t,x= .str ⟨l.toArray⟩ t
 | .tup vs,x=>∃a xs,x= .ref a∧F a∧vR h a xs∧VRs F h vs xs.toList
 | .lst vs,x=>∃a xs,x= .ref a∧F a∧h.PlainList a xs∧VRs F h vs xs.toList
 | .obj C fs,x=>∃a d m,x= .ref a∧F a∧F d∧h.get? a=some {cls:=.ref C,dict:=some d}∧vJ h d m fs.length∧qc F h fs m∧∀n y,m n=some y→∃p∈fs,nm p.1=n
 | .ref a,x=>x= .ref a
 | .fn y,x=>x=y
 | .rng lo hi,x=>∃a t u v,x= .ref a∧F a∧CP h a lo hi 1 t u v
 | .vals d,x=>∃a,x= .ref a∧F a∧h.get? a=some {cls:=.type "dict_values",data:=.fields #[.ref d]}
 | .nxt i,x=>∃a,x= .ref a∧F a∧h.get? a=some {cls:=.type "method-wrapper",data:=.fields #[.builtin "list_iterator.__next__",.ref i]}
noncomputable def VRs(F:Addr→Prop)(h:Heap):List V→List Value→Prop
 | [],xs=>xs=[]
 |v::vs,xs=>∃y ys,xs=y::ys∧VR F h v y∧VRs F h vs ys
noncomputable def qc(F:Addr→Prop)(h:Heap):List (Nat×V)→(Str→Option Value)→Prop
 | [],_=>True
 |(i,v)::fs,m=>(∃y,m (nm i)=some y∧VR F h v y)∧qc F h fs m
end
noncomputable def SR(F:Addr→Prop)(h:Heap):List (Option V)→List (Option Value)→Prop
 | [],xs=>xs=[]
 |v::vs,xs=>∃y ys,xs=y::ys∧(match v,y with| .none,.none=>True|some v,some y=>VR nm F h v y|_,_=>False)∧SR F h vs ys
noncomputable def ER(F:Addr→Prop)(h:Heap):List (Int×V)→List (Int×Value)→Prop
 | [],xs=>xs=[]
 |(k,v)::es,xs=>∃y ys,xs=(k,y)::ys∧VR nm F h v y∧ER F h es ys
theorem VRe:(∀(nm:Nat→Str) F h x,VR nm F h .none x=(x= .none))∧(∀(nm:Nat→Str) F h x b,VR nm F h (.bool b) x=(x= .bool b))∧(∀(nm:Nat→Str) F h x i,VR nm F h (.int i) x=∃t,x= .int i t)∧(∀(nm:Nat→Str) F h x l,VR nm F h (.str l) x=∃t,x= .str ⟨l.toArray⟩ t)
 ∧(∀(nm:Nat→Str) F h x vs,VR nm F h (.tup vs) x=∃a xs,x= .ref a∧F a∧vR h a xs∧VRs nm F h vs xs.toList)∧(∀(nm:Nat→Str) F h x vs,VR nm F h (.lst vs) x=∃a xs,x= .ref a∧F a∧h.PlainList a xs∧VRs nm F h vs xs.toList)
 ∧(∀(nm:Nat→Str) F h x C fs,VR nm F h (.obj C fs) x=∃a d m,x= .ref a∧F a∧F d∧h.get? a=some {cls:=.ref C,dict:=some d}∧vJ h d m fs.length∧qc nm F h fs m∧∀n y,m n=some y→∃p∈fs,nm p.1=n)
 ∧(∀(nm:Nat→Str) F h x a,VR nm F h (.ref a) x=(x= .ref a))∧(∀(nm:Nat→Str) F h x y,VR nm F h (.fn y) x=(x=y))∧(∀(nm:Nat→Str) F h x lo hi,VR nm F h (.rng lo hi) x=∃a t u v,x= .ref a∧F a∧CP h a lo hi 1 t u v)
 ∧(∀(nm:Nat→Str) F h x d,VR nm F h (.vals d) x=∃a,x= .ref a∧F a∧h.get? a=some {cls:=.type "dict_values",data:=.fields #[.ref d]})
 ∧∀(nm:Nat→Str) F h x i,VR nm F h (.nxt i) x=∃a,x= .ref a∧F a∧h.get? a=some {cls:=.type "method-wrapper",data:=.fields #[.builtin "list_iterator.__next__",.ref i]}:=
 ⟨λz z z z=>rfl,λz z z z z=>rfl,λz z z z z=>rfl,λz z z z z=>rfl,λz z z z z=>rfl,λz z z z z=>rfl,λz z z z z z=>rfl,λz z z z z=>rfl,λz z z z z=>rfl,λz z z z z z=>rfl,λz z z z z=>rfl,λz z z z z=>rfl⟩
theorem VRse:(∀(nm:Nat→Str) F h xs,VRs nm F h [] xs=(xs=[]))∧∀(nm:Nat→Str) F h v vs xs,VRs nm F h (v::vs) xs=∃y ys,xs=y::ys∧VR nm F h v y∧VRs nm F h vs ys:=⟨λz z z z=>rfl,λz z z z z z=>rfl⟩
theorem VRfe:(∀(nm:Nat→Str) F h m,qc nm F h [] m=True)∧∀(nm:Nat→Str) F h i v fs m,qc nm F h ((i,v)::fs) m=((∃y,m (nm i)=some y∧VR nm F h v y)∧qc nm F h fs m):=⟨λz z z z=>rfl,λz z z z z z z=>rfl⟩
theorem SRe:(∀(nm:Nat→Str) F h xs,SR nm F h [] xs=(xs=[]))∧∀(nm:Nat→Str) F h v vs xs,SR nm F h (v::vs) xs=∃y ys,xs=y::ys∧(match v,y with| .none,.none=>True|some v,some y=>VR nm F h v y|_,_=>False)∧SR nm F h vs ys:=⟨λz z z z=>rfl,λz z z z z z=>rfl⟩
theorem ERe:(∀(nm:Nat→Str) F h xs,ER nm F h [] xs=(xs=[]))∧∀(nm:Nat→Str) F h k v es xs,ER nm F h ((k,v)::es) xs=∃y ys,xs=(k,y)::ys∧VR nm F h v y∧ER nm F h es ys:=⟨λz z z z=>rfl,λz z z z z z z=>rfl⟩
variable(prog:Program)(w:d5)
noncomputable def OR(F:Addr→Prop)(h:Heap)(a:Addr):O→Prop
 | .lst vs=>∃xs,h.PlainList a xs∧VRs nm F h vs xs.toList
 | .dict es ep=>∃kvs,h.DictAt (intKind prog w) a kvs ep∧ER nm F h es kvs
 | .inst C d=>h.get? a=some {cls:=.ref C,dict:=some d}
 | .ns fs=>∃m,vJ h a m fs.length∧qc nm F h fs m∧∀n y,m n=some y→∃p∈fs,nm p.1=n
 | .sl C vs=>∃xs d od,h.get? a=some {cls:=.ref C,dict:=some d,slots:=xs}∧F d∧h.get? d=some od∧SR nm F h vs xs.toList
 | .it l k=>h.IsListIter a l k∧∃o,h.get? a=some o∧o.dict=none
 | .set xs=>h.SetOf (intKind prog w) a (λk=>decide (k∈xs)) xs.length
 | .fld=>∃o vs,h.get? a=some o∧o.data= .fields vs
 | .zip TI TO is=>h.get? a=some {cls:=.type "zip",dict:=none,data:=.fields #[.none,.bool false,.bool false,.ref TI,.ref TO],slots:= #[]}∧F TI∧h.get? TI=some {cls:=.type "tuple",data:=.seq (is.map dK).toArray}
 | .own n=>∃xs,h.get? a=some {cls:=.type "tuple",data:=.seq xs}∧xs.size=n
 | .itl us=>∃l xs,h.IsListIter a l 0∧F l∧h.PlainList l xs∧VRs nm F h us xs.toList
 | .itr lo hi=>IsRangeIter h a lo (hi - lo).toNat 1
end
section
variable{nm:Nat→Str}
noncomputable def bW(F F':Addr→Prop)(h h':Heap):Prop:=∀a o,F a→h.get? a=some o→F' a∧h'.get? a=some o
theorem vJ.keep{F F' h h' d m c}(k:bW F F' h h')(hf:F d)(x:vJ h d m c):F' d∧vJ h' d m c:=
 (by obtain⟨es,n,e,r⟩:=x;exact⟨(k _ _ hf e).1,es,n,(k _ _ hf e).2,r⟩)
theorem vR.keep{F F' h h' d m}(k:bW F F' h h')(hf:F d)(x:vR h d m):F' d∧vR h' d m:=
 (by obtain⟨n,e⟩:=x;exact⟨(k _ _ hf e).1,n,(k _ _ hf e).2⟩)
theorem fY{F F':Addr→Prop}{h h':Heap}{d:Addr}{m}(k:bW F F' h h')(hf:F d)(x:h.PlainList d m):F' d∧h'.PlainList d m:=
 (by obtain⟨n,e⟩:=x;exact⟨(k _ _ hf e).1,n,(k _ _ hf e).2⟩)
mutual
theorem VR.keep{F F':Addr→Prop}{h h':Heap}(k:bW F F' h h'):∀{v:V}{x:Value},VR nm F h v x→VR nm F' h' v x
 | .none,_,r=>by simpa only[VRe]using r
 | .bool _,_,r=>by simpa only[VRe]using r
 | .int _,_,r=>by simpa only[VRe]using r
 | .str _,_,r=>by simpa only[VRe]using r
 | .tup vs,x,r=>by
   simp only[VRe]at r⊢
   obtain⟨a,xs,e,f,t,q⟩:=r
   exact⟨a,xs,e,(t.keep k f).1,(t.keep k f).2,VRs.keep k q⟩
 | .lst vs,x,r=>by
   simp only[VRe]at r⊢
   obtain⟨a,xs,e,f,t,q⟩:=r
   exact⟨a,xs,e,(fY k f t).1,(fY k f t).2,VRs.keep k q⟩
 | .obj C fs,x,r=>by
   simp only[VRe]at r⊢
   refine r.elim λa r1_=>r1_.elim λd r2_=>r2_.elim λm r3_=>r3_.elim λe r4_=>r4_.elim λf r5_=>r5_.elim λg r6_=>r6_.elim λt r7_=>r7_.elim λu r8_=>r8_.elim λq z=>?_
   exact⟨a,d,m,e,(k _ _ f t).1,(u.keep k g).1,(k _ _ f t).2,(u.keep k g).2,qc.keep k q,z⟩
 | .ref _,_,r=>by simpa only[VRe]using r
 | .fn _,_,r=>by simpa only[VRe]using r
 | .rng lo hi,_,r=>by
   simp only[VRe]at r⊢
   refine r.elim λa r1_=>r1_.elim λt r2_=>r2_.elim λu r3_=>r3_.elim λv r4_=>r4_.elim λe r5_=>r5_.elim λf g=>?_
   exact⟨a,t,u,v,e,(k _ _ f g).1,(k _ _ f g).2⟩
 | .vals d,_,r=>by
   simp only[VRe]at r⊢
   refine r.elim λa r1_=>r1_.elim λe r2_=>r2_.elim λf g=>?_
   exact⟨a,e,(k _ _ f g).1,(k _ _ f g).2⟩
 | .nxt d,_,r=>by
   simp only[VRe]at r⊢
   refine r.elim λa r1_=>r1_.elim λe r2_=>r2_.elim λf g=>?_
   exact⟨a,e,(k _ _ f g).1,(k _ _ f g).2⟩
theorem VRs.keep{F F':Addr→Prop}{h h':Heap}(k:bW F F' h h'):∀{vs:List V}{xs:List Value},VRs nm F h vs xs→VRs nm F' h' vs xs
 | [],_,r=>by simpa only[VRse]using r
 |v::vs,xs,r=>by
  simp only[VRse]at r⊢
  refine r.elim λy r1_=>r1_.elim λys r2_=>r2_.elim λe r3_=>r3_.elim λp q=>?_
  exact⟨y,ys,e,VR.keep k p,VRs.keep k q⟩
theorem qc.keep{F F':Addr→Prop}{h h':Heap}(k:bW F F' h h'):∀{fs:List (Nat×V)}{m:Str→Option Value},qc nm F h fs m→qc nm F' h' fs m
 | [],_,_=>by trivial
 |(i,v)::fs,m,r=>by
  simp only[VRfe]at r⊢
  refine r.elim λe1_ q=>e1_.elim λy r2_=>r2_.elim λe p=>?_
  exact⟨⟨y,e,VR.keep k p⟩,qc.keep k q⟩
end
theorem SR.keep{F F':Addr→Prop}{h h':Heap}(k:bW F F' h h'):∀{vs:List (Option V)}{xs:List (Option Value)},SR nm F h vs xs→SR nm F' h' vs xs
 | [],_,r=>by simpa only[SRe]using r
 |v::vs,xs,r=>by
  simp only[SRe]at r⊢
  obtain⟨y,ys,e,p,q⟩:=r
  refine⟨y,ys,e,?_,SR.keep k q⟩
  cases v<;>cases y<;>simp_all
  exact p.keep k
theorem ER.keep{F F':Addr→Prop}{h h':Heap}(k:bW F F' h h'):∀{vs:List (Int×V)}{xs:List (Int×Value)},ER nm F h vs xs→ER nm F' h' vs xs
 | [],_,r=>by simpa only[ERe]using r
 |(i,v)::vs,xs,r=>by
  simp only[ERe]at r⊢
  refine r.elim λy r1_=>r1_.elim λys r2_=>r2_.elim λe r3_=>r3_.elim λp q=>?_
  exact⟨y,ys,e,p.keep k,ER.keep k q⟩
theorem OR.keep{prog:Program}{w:d5}{F F':Addr→Prop}{h h':Heap}(k:bW F F' h h'){a:Addr}(ha:∀o,h.get? a=some o→h'.get? a=some o):∀{o:O},OR nm prog w F h a o→OR nm prog w F' h' a o
 | .lst vs,r=>by
   refine r.elim λxs r1_=>r1_.elim λp q=>?_
   exact⟨xs,p.at ha,q.keep k⟩
 | .dict es ep,r=>by
   refine r.elim λxs r1_=>r1_.elim λe2_ q=>e2_.elim λo r3_=>r3_.elim λes' r4_=>r4_.elim λg p=>?_
   exact⟨xs,⟨o,es',ha _ g,p⟩,q.keep k⟩
 | .inst C d,r=>ha _ r
 | .ns fs,r=>by
   refine r.elim λm r1_=>r1_.elim λe2_ r3_=>r3_.elim λq z=>e2_.elim λes r4_=>r4_.elim λn r5_=>r5_.elim λe p=>?_
   exact⟨m,⟨es,n,ha _ e,p⟩,q.keep k,z⟩
 | .sl C vs,r=>by
   refine r.elim λxs r1_=>r1_.elim λd r2_=>r2_.elim λod r3_=>r3_.elim λp r4_=>r4_.elim λf r5_=>r5_.elim λg q=>?_
   exact⟨xs,d,od,ha _ p,(k _ _ f g).1,(k _ _ f g).2,q.keep k⟩
 | .it l k',r=>by
   refine r.elim λe1_ r2_=>r2_.elim λo' r3_=>r3_.elim λp' q'=>e1_.elim λo r4_=>r4_.elim λp q=>?_
   exact⟨⟨o,ha _ p,q⟩,o',ha _ p',q'⟩
 | .set xs,r=>by
   refine r.elim λo r1_=>r1_.elim λes r2_=>r2_.elim λep r3_=>r3_.elim λt r4_=>r4_.elim λp q=>?_
   exact⟨o,es,ep,t,ha _ p,q⟩
 | .fld,r=>by
   refine r.elim λo r1_=>r1_.elim λvs r2_=>r2_.elim λp q=>?_
   exact⟨o,vs,ha _ p,q⟩
 | .zip TI TO is,r=>by
   refine r.elim λp r1_=>r1_.elim λf g=>?_
   exact⟨ha _ p,(k _ _ f g).1,(k _ _ f g).2⟩
 | .own n,r=>by
   refine r.elim λxs r1_=>r1_.elim λp q=>?_
   exact⟨xs,ha _ p,q⟩
 | .itl us,r=>by
   refine r.elim λl r1_=>r1_.elim λxs r2_=>r2_.elim λe3_ r4_=>r4_.elim λf r5_=>r5_.elim λpl r=>e3_.elim λo r6_=>r6_.elim λp q=>?_
   exact⟨l,xs,⟨o,ha _ p,q⟩,(fY k f pl).1,(fY k f pl).2,r.keep k⟩
 | .itr lo hi,r=>ha _ r
end
end Mine
namespace Mine
open PySem PySem.W PyProof.Rows
noncomputable def Fz(stk:Addr→Prop)(hp:Hp)(a:Addr):Prop:=hp a=ae∧¬stk a
structure dH where
 nm:Nat→Str
 prog:Program
 w:d5
 H₀:Heap
 K:Frag
variable(P:dH)
noncomputable abbrev dH.VR(P:dH)(stk:Addr→Prop)(hp:Hp)(h:Heap):V→Value→Prop:=Mine.VR P.nm (Fz stk hp) h
noncomputable abbrev dH.VRs(P:dH)(stk:Addr→Prop)(hp:Hp)(h:Heap):List V→List Value→Prop:=Mine.VRs P.nm (Fz stk hp) h
noncomputable abbrev dH.M(P:dH):Model:=model P.prog P.w
structure HeapOk(stk:Addr→Prop)(hp:Hp)(s:af):Prop where
 obj:∀a o,hp a=some o→OR P.nm P.prog P.w (Fz stk hp) s.heap a o
 apart:∀a,hp a≠ae→¬stk a
 base:∀b o,P.H₀.get? b=some o→s.heap.get? b=some o
 new:∀a,hp a≠ae→P.H₀.get? a=ae
 stkn:∀a,stk a→P.H₀.get? a=ae
 stkl:∀a,stk a→∃o,s.heap.get? a=some o
 gens:s.gens= #[]
noncomputable def ow(o:Obj):Prop:=∃es n,o.data= .dict es n
structure Ext(own stk:Addr→Prop)(hp:Hp)(s:af)(hp':Hp)(s':af):Prop where
 keep:∀b o,hp b=ae→¬own b→s.heap.get? b=some o→s'.heap.get? b=some o∨(stk b∧ow o∧∃sl,s'.heap.get? b=some {o with slots:=sl})
 there:∀b o,s.heap.get? b=some o→∃o',s'.heap.get? b=some o'
 dic:∀b o,stk b→s.heap.get? b=some o→ow o→∃o',s'.heap.get? b=some o'∧ow o'
 fresh:∀b,hp b=ae→hp' b≠ae→s.heap.get? b=ae
 drawn:s'.drawn=s.drawn
 os:s'.os=s.os
noncomputable def no1:Addr→Prop:=λz=>False
theorem Ext.refl(own stk:Addr→Prop)(hp:Hp)(s:af):Ext own stk hp s hp s:=⟨λz z z z e=>.inl e,λz o e=>⟨o,e⟩,λz o z e d=>⟨o,e,d⟩,λz a b=>absurd a b,rfl,rfl⟩
theorem Ext.same{own stk:Addr→Prop}{hp hp1:Hp}{s s1:af}(x:Ext own stk hp s hp1 s1){b:Addr}{o:Obj}(e:hp b=ae)(n:¬own b)(h:¬stk b∨¬ow o)(g:s.heap.get? b=some o):s1.heap.get? b=some o:=by
 rcases x.keep b o e n g with q|⟨q1,q2,_⟩
 ·exact q
 ·rcases h with h|h
  ·exact absurd q1 h
  ·exact absurd q2 h
theorem Ext.trans{own stk:Addr→Prop}{hp hp1 hp2:Hp}{s s1 s2:af}(x:Ext own stk hp s hp1 s1)(y:Ext own stk hp1 s1 hp2 s2):Ext own stk hp s hp2 s2:=by
 refine⟨λb o e n g=>?_,λb o g=>?_,λb o st g d=>?_,λb e n=>?_,y.drawn.trans x.drawn,y.os.trans x.os⟩
 ·have h1:hp1 b=ae:=by
   cases q:hp1 b with
   |none=>rfl
   |some v=>have:=x.fresh b e (by rw[q];intro z;cases z);rw[g]at this;cases this
  rcases x.keep b o e n g with g1|⟨st,d,sl,g1⟩
  ·exact y.keep b o h1 n g1
  ·rcases y.keep b _ h1 n g1 with g2|⟨_,_,sl2,g2⟩
   ·exact .inr ⟨st,d,sl,g2⟩
   ·exact .inr ⟨st,d,sl2,g2⟩
 ·refine(x.there b o g).elim λo' g'=>?_
  exact y.there b o' g'
 ·refine(x.dic b o st g d).elim λo' r1_=>r1_.elim λg' d'=>?_
  exact y.dic b o' st g' d'
 ·cases q:hp1 b with
  |none=>
   have:=y.fresh b q n
   cases g:s.heap.get? b with
   |none=>rfl
   |some o=>obtain⟨o',g'⟩:=x.there b o g;rw[this]at g';cases g'
  |some v=>exact x.fresh b e (by rw[q];intro z;cases z)
theorem Ext.wider{own own' stk:Addr→Prop}{hp hp1:Hp}{s s1:af}(x:Ext own stk hp s hp1 s1)(k:∀b,own b→own' b):Ext own' stk hp s hp1 s1:=
 ⟨λb o e n g=>x.keep b o e (λz=>n (k b z)) g,x.there,x.dic,x.fresh,x.drawn,x.os⟩
theorem Ext.of1{own stk:Addr→Prop}{hp hp1:Hp}{s s1:af}(x:Ext no1 stk hp s hp1 s1):Ext own stk hp s hp1 s1:=x.wider λy z=>z.elim
theorem Ext.exact{own stk:Addr→Prop}{hp hp1:Hp}{s s1:af}(k:∀b o,hp b=ae→¬own b→s.heap.get? b=some o→s1.heap.get? b=some o)(th:∀b o,s.heap.get? b=some o→∃o',s1.heap.get? b=some o')
 (dc:∀b o,stk b→s.heap.get? b=some o→ow o→∃o',s1.heap.get? b=some o'∧ow o')(fr:∀b,hp b=ae→hp1 b≠ae→s.heap.get? b=ae)(hd:s1.drawn=s.drawn)(ho:s1.os=s.os):Ext own stk hp s hp1 s1:=
 ⟨λb o e n g=>.inl (k b o e n g),th,dc,fr,hd,ho⟩
theorem Ext.keepy{own stk:Addr→Prop}{hp hp1:Hp}{s s1:af}(x:Ext own stk hp s hp1 s1)(k:∀b,own b→stk b):bW (Fz stk hp) (Fz stk hp1) s.heap s1.heap:=by
 intro a o i1_ g;refine i1_.elim λe n=>?_
 refine⟨⟨?_,n⟩,x.same e (λz=>n (k a z)) (.inl n) g⟩
 cases q:hp1 a with
 |none=>rfl
 |some v=>have:=x.fresh a e (by rw[q];intro z;cases z);rw[g]at this;cases this
inductive PostT{α:Type}(own stk:Addr→Prop)(hp:Hp)(s:af)(Q:α→Hp→af→Prop)(x:α)(s':af):Prop
 |intro (hp':Hp) (e:Ext own stk hp s hp' s') (ok:HeapOk P stk hp' s') (q:Q x hp' s'):PostT own stk hp s Q x s'
theorem PostT.back{α:Type}{own stk:Addr→Prop}{hp hp1:Hp}{s s1:af}{Q:α→Hp→af→Prop}(e:Ext own stk hp s hp1 s1){x:α}{s':af}(h:PostT P own stk hp1 s1 Q x s'):PostT P own stk hp s Q x s':=
 (by obtain⟨hp',e',ok,q⟩:=h;exact⟨hp',e.trans e',ok,q⟩)
noncomputable abbrev XP:=Value→Hp→af→Prop
noncomputable def T{α:Type}(own stk:Addr→Prop)(A:aC)(t:Sem α)(hp:Hp)(s:af)(Q:α→Hp→af→Prop)(X:XP):Prop:=
 wpAny P.M A t (PostT P own stk hp s Q) (PostT P own stk hp s X) s
variable{P}
section
variable{α β:Type}{own stk:Addr→Prop}{A:aC}{hp:Hp}{s:af}{X:XP}
theorem T.thn{t:Sem α}{Q:α→Hp→af→Prop}{G:α→af→Prop}(h:T P own stk A t hp s Q X)(k:∀a hp1 s1,Ext own stk hp s hp1 s1→HeapOk P stk hp1 s1→Q a hp1 s1→G a s1):
 wpAny P.M A t G (PostT P own stk hp s X) s:=
 wpAny_mono h (by rintro a s1 ⟨hp1,e,ok,q⟩;exact k a hp1 s1 e ok q) λy y z=>z
theorem T.nxt{t:Sem β}{Q:β→Hp→af→Prop}{hp1:Hp}{s1:af}(e:Ext own stk hp s hp1 s1)(h:T P own stk A t hp1 s1 Q X):wpAny P.M A t (PostT P own stk hp s Q) (PostT P own stk hp s X) s1:=
 wpAny_mono h (λy y z=>z.back P e) λy y z=>z.back P e
theorem Ext.toks(n:Nat):Ext own stk hp s hp {s with toks:=n}:=.exact (λz z z z e=>e) (λz o e=>⟨o,e⟩) (λz o z e d=>⟨o,e,d⟩) (λz a b=>absurd a b) rfl rfl
theorem HeapOk.toks(ok:HeapOk P stk hp s)(n:Nat):HeapOk P stk hp {s with toks:=n}:=⟨ok.obj,ok.apart,ok.base,ok.new,ok.stkn,ok.stkl,ok.gens⟩
end
theorem Ext.grow{own stk:Addr→Prop}{hp:Hp}{s:af}{h':Heap}{tk:Nat}(k:∀b o,s.heap.get? b=some o→h'.get? b=some o):Ext own stk hp s hp {s with heap:=h',toks:=tk}:=
 .exact (λb o z z e=>k b o e) (λb o e=>⟨o,k b o e⟩) (λb o z e d=>⟨o,k b o e,d⟩) (λz a b=>absurd a b) rfl rfl
theorem HeapOk.grow{stk:Addr→Prop}{hp:Hp}{s:af}(ok:HeapOk P stk hp s){h':Heap}{tk:Nat}(k:∀b o,s.heap.get? b=some o→h'.get? b=some o):HeapOk P stk hp {s with heap:=h',toks:=tk}:=
 ⟨λa o e=>(ok.obj a o e).keep (λa o f g=>⟨f,k a o g⟩) (λo g=>k a o g),ok.apart,λb o e=>k b o (ok.base b o e),ok.new,ok.stkn,λa z=>(by obtain⟨o,e⟩:=ok.stkl a z;exact⟨o,k a o e⟩),ok.gens⟩
theorem fz_of_new{stk:Addr→Prop}{hp:Hp}{s:af}(ok:HeapOk P stk hp s){a:Addr}(h:s.heap.get? a=ae):Fz stk hp a:=by
 refine⟨?_,λz=>?_⟩
 ·cases q:hp a with
  |none=>rfl
  |some o=>
   have:=ok.obj a o q
   exfalso
   cases o with
   |lst vs=>obtain⟨xs,⟨n,e⟩,_⟩:=this;rw[h]at e;cases e
   |dict vs ep=>obtain⟨xs,⟨o,es,e,_⟩,_⟩:=this;rw[h]at e;cases e
   |inst C d=>rw[show s.heap.get? a=some _ from this]at h;cases h
   |ns fs=>obtain⟨m,⟨es,n,e,_⟩,_⟩:=this;rw[h]at e;cases e
   |sl C vs=>obtain⟨xs,d,od,e,_⟩:=this;rw[h]at e;cases e
   |it l k=>obtain⟨⟨o,e,_⟩,_⟩:=this;rw[h]at e;cases e
   |set _=>obtain⟨o,es,ep,t,e,_⟩:=this;rw[h]at e;cases e
   |fld=>obtain⟨o,vs,e,_⟩:=this;rw[h]at e;cases e
   |zip TI TO is=>have e:=this.1;rw[h]at e;cases e
   |own n=>obtain⟨xs,e,_⟩:=this;rw[h]at e;cases e
   |itl us=>obtain⟨l,xs,⟨o,e,_⟩,_⟩:=this;rw[h]at e;cases e
   |itr lo hi=>rw[show s.heap.get? a=some _ from this]at h;cases h
 ·refine(ok.stkl a z).elim λo e=>?_
  rw[h]at e;cases e
theorem HeapOk.track{stk:Addr→Prop}{hp:Hp}{s:af}(ok:HeapOk P stk hp s){h':Heap}{tk:Nat}{a:Addr}{o:O}(k:∀b o,s.heap.get? b=some o→h'.get? b=some o)(hn:s.heap.get? a=ae)
 (ho:OR P.nm P.prog P.w (Fz stk (upd hp a o)) h' a o):HeapOk P stk (upd hp a o) {s with heap:=h',toks:=tk}:=by
 have fz:=fz_of_new ok hn
 have ky:bW (Fz stk hp) (Fz stk (upd hp a o)) s.heap h':=by
  intro b ob i1_ g;refine i1_.elim λe n=>?_
  have:b≠a:=by rintro rfl;rw[hn]at g;cases g
  exact⟨⟨by rw[upd_ne this];exact e,n⟩,k b ob g⟩
 refine⟨λb ob e=>?_,λb e=>?_,λb ob e=>k b ob (ok.base b ob e),λb e=>?_,ok.stkn,λb z=>(by obtain⟨o,e⟩:=ok.stkl b z;exact⟨o,k b o e⟩),ok.gens⟩
 ·by_cases q:b=a
  ·subst q;rw[upd_same]at e;cases e;exact ho
  ·rw[upd_ne q]at e
   exact(ok.obj b ob e).keep ky (λo g=>k b o g)
 ·by_cases q:b=a
  ·subst q;exact fz.2
  ·rw[upd_ne q]at e;exact ok.apart b e
 ·by_cases q:b=a
  ·subst q
   cases g:P.H₀.get? b with
   |none=>rfl
   |some o'=>have:=ok.base b o' g;rw[hn]at this;cases this
  ·rw[upd_ne q]at e;exact ok.new b e
theorem Ext.track{own stk:Addr→Prop}{hp:Hp}{s:af}{h':Heap}{tk:Nat}{a:Addr}{o:O}(k:∀b o,s.heap.get? b=some o→h'.get? b=some o)(hn:s.heap.get? a=ae):Ext own stk hp s (upd hp a o) {s with heap:=h',toks:=tk}:=by
 refine .exact (λb o z z e=>k b o e) (λb o e=>⟨o,k b o e⟩) (λb o z e d=>⟨o,k b o e,d⟩) (λb e n=>?_) rfl rfl
 by_cases q:b=a
 ·subst q;exact hn
 ·rw[upd_ne q]at n;exact absurd e n
theorem HeapOk.change{stk:Addr→Prop}{hp:Hp}{s:af}(ok:HeapOk P stk hp s){h':Heap}{tk:Nat}{a:Addr}{o₀ o:O}(ha:hp a=some o₀)(hs:bP a s.heap h')
 (ho:OR P.nm P.prog P.w (Fz stk (upd hp a o)) h' a o):HeapOk P stk (upd hp a o) {s with heap:=h',toks:=tk}:=by
 have ha':hp a≠ae:=by rw[ha];intro z;cases z
 have ky:bW (Fz stk hp) (Fz stk (upd hp a o)) s.heap h':=by
  intro b ob i1_ g;refine i1_.elim λe n=>?_
  have:b≠a:=by rintro rfl;exact ha' e
  exact⟨⟨by rw[upd_ne this];exact e,n⟩,(hs.2 b this).trans g⟩
 refine⟨λb ob e=>?_,λb e=>?_,λb ob e=>?_,λb e=>?_,ok.stkn,λb z=>?_,ok.gens⟩
 ·by_cases q:b=a
  ·subst q;rw[upd_same]at e;cases e;exact ho
  ·rw[upd_ne q]at e
   exact(ok.obj b ob e).keep ky (λo g=>(hs.2 b q).trans g)
 ·by_cases q:b=a
  ·subst q;exact ok.apart b ha'
  ·rw[upd_ne q]at e;exact ok.apart b e
 ·have:b≠a:=by rintro rfl;rw[ok.new b ha']at e;cases e
  exact(hs.2 b this).trans (ok.base b ob e)
 ·by_cases q:b=a
  ·subst q;exact ok.new b ha'
  ·rw[upd_ne q]at e;exact ok.new b e
 ·have:b≠a:=by rintro rfl;exact ok.apart b ha' z
  refine(ok.stkl b z).elim λo e=>?_
  exact⟨o,(hs.2 b this).trans e⟩
theorem Ext.change{own stk:Addr→Prop}{hp:Hp}{s:af}(ok:HeapOk P stk hp s){h':Heap}{tk:Nat}{a:Addr}{o₀ o:O}(ha:hp a=some o₀)(hs:bP a s.heap h')(ht:∃o',h'.get? a=some o'):Ext own stk hp s (upd hp a o) {s with heap:=h',toks:=tk}:=by
 have ha':hp a≠ae:=by rw[ha];intro z;cases z
 refine .exact (λb ob e y g=>?_) (λb o' e=>?_) (λb o' st e d=>⟨o',(hs.2 b (by rintro rfl;exact ok.apart b ha' st)).trans e,d⟩) (λb e n=>?_) rfl rfl
 ·have:b≠a:=by rintro rfl;exact ha' e
  exact(hs.2 b this).trans g
 ·by_cases q:b=a
  ·subst q;exact ht
  ·exact⟨o',(hs.2 b q).trans e⟩
 ·by_cases q:b=a
  ·subst q;exact absurd e ha'
  ·rw[upd_ne q]at n;exact absurd e n
theorem HeapOk.drop{stk:Addr→Prop}{hp:Hp}{s:af}(ok:HeapOk P stk hp s)(a:Addr):HeapOk P stk (del hp a) s:=by
 have ky:bW (Fz stk hp) (Fz stk (del hp a)) s.heap s.heap:=by
  intro b ob i1_ g;refine i1_.elim λe n=>?_
  refine⟨⟨?_,n⟩,g⟩
  by_cases q:b=a
  ·subst q;simp
  ·rw[del_ne q];exact e
 have ne:∀b,del hp a b≠ae→hp b≠ae:=λb e=>by
  by_cases q:b=a
  ·subst q;simp at e
  ·rw[del_ne q]at e;exact e
 refine⟨λb ob e=>?_,λb e=>ok.apart b (ne b e),ok.base,λb e=>ok.new b (ne b e),ok.stkn,ok.stkl,ok.gens⟩
 by_cases q:b=a
 ·subst q;simp at e
 ·rw[del_ne q]at e
  exact(ok.obj b ob e).keep ky (λo g=>g)
theorem Ext.drop{own stk:Addr→Prop}{hp:Hp}{s:af}(a:Addr):Ext own stk hp s (del hp a) s:=by
 refine .exact (λb ob e z g=>g) (λb o' e=>⟨o',e⟩) (λb o z e d=>⟨o,e,d⟩) (λb e n=>?_) rfl rfl
 by_cases q:b=a
 ·subst q;simp at n
 ·rw[del_ne q]at n;exact absurd e n
end Mine
open PySem PySem.W PySem.Calls PyProof.Rows
namespace Mine
structure fA(d:Nat)(A:aC):Prop where
 depth:A.depth+d<recursionLimit
 units:A.units+8*d+128<cLine
 hd:0<d→A.handled=none
theorem fA.less{d d':Nat}{A:aC}(r:fA d A)(h:d'≤d):fA d' A:=⟨by have:=r.depth;lia,by have:=r.units;lia,λz=>r.hd (by lia)⟩
noncomputable def Fs(A:aC)(stk:Addr→Prop)(s:af):Prop:=∃l,A.frames=some l∧∀e∈l,e.scope.kind= .function∧∃L o,e.frame=some L∧stk L∧s.heap.get? L=some o∧ow o
theorem Fs.step{A:aC}{own stk:Addr→Prop}{hp hp':Hp}{s s':af}(f:Fs A stk s)(e:Ext own stk hp s hp' s'):Fs A stk s':=by
 refine f.elim λl r1_=>r1_.elim λhl h=>?_
 refine⟨l,hl,λx hx=>?_⟩
 refine(h x hx).elim λhk r1_=>r1_.elim λL r2_=>r2_.elim λo r3_=>r3_.elim λhf r4_=>r4_.elim λst r5_=>r5_.elim λg d=>?_
 refine(e.dic L o st g d).elim λo' r1_=>r1_.elim λg' d'=>?_
 exact⟨hk,L,o',hf,st,g',d'⟩
theorem Fs.up{A:aC}{stk stk':Addr→Prop}{s s':af}(f:Fs A stk s)(sub:∀a,stk a→stk' a)(k:∀b o,stk b→s.heap.get? b=some o→ow o→∃o',s'.heap.get? b=some o'∧ow o'):Fs A stk' s':=by
 refine f.elim λl r1_=>r1_.elim λhl h=>?_
 refine⟨l,hl,λx hx=>?_⟩
 refine(h x hx).elim λhk r1_=>r1_.elim λL r2_=>r2_.elim λo r3_=>r3_.elim λhf r4_=>r4_.elim λst r5_=>r5_.elim λg d=>?_
 refine(k L o st g d).elim λo' r1_=>r1_.elim λg' d'=>?_
 exact⟨hk,L,o',hf,sub L st,g',d'⟩
theorem Fs.around{A A':aC}{stk:Addr→Prop}{s:af}(f:Fs A stk s)(h:A'.frames=A.frames):Fs A' stk s:=(by obtain⟨l,hl,k⟩:=f;exact⟨l,h.trans hl,k⟩)
structure EnvOk(P:dH)(A:aC)(stk:Addr→Prop)(hp:Hp)(env:Env)(loc:bk)(s:af):Prop where
 kind:env.scope.kind= .function
 glob:env.globals=mainGlobals
 blt:env.builtins=builtinsNs
 ns:∃m,s.heap.Ns env.locals m∧∀i v,loc i=some v→env.kindOf (P.nm i)=some .local→∃x,m (P.nm i)=some x∧P.VR stk hp s.heap v x
 cell:∀i v,loc i=some v→(env.kindOf (P.nm i)=some .cell∨env.kindOf (P.nm i)=some .free)→∃c x,env.cells.lookup (P.nm i)=some c∧s.heap.IsCell c (some x)∧P.VR stk hp s.heap v x
 stkL:stk env.locals
 stkC:∀n c,env.cells.lookup n=some c→stk c
 cells:∀n,(env.kindOf n=some .cell∨env.kindOf n=some .free)→∃c x,env.cells.lookup n=some c∧s.heap.IsCell c x
 apart:∀n n' c,env.cells.lookup n=some c→env.cells.lookup n'=some c→n=n'
 apartL:∀n,env.cells.lookup n≠some env.locals
 frs:Fs A stk s
 top:∃e0 r,A.frames=some (e0::r)∧e0.frame=env.frame
structure eL(P:dH)(mg mb:Str→Option Value):Prop where
 kin:P.K.In P.H₀
 g:P.H₀.Ns mainGlobals mg
 b:P.H₀.Ns builtinsNs mb
 lim:P.H₀.NoLimit
theorem isD_cell{o:Obj}{v:Option Value}(h:o.data= .cell v):¬ow o:=by rintro⟨es,n,e⟩;rw[h]at e;cases e
theorem EnvOk.step{P:dH}{A:aC}{stk:Addr→Prop}{hp hp':Hp}{env:Env}{loc:bk}{s s':af}(x:EnvOk P A stk hp env loc s)(ok:HeapOk P stk hp s)(e:Ext no1 stk hp s hp' s'):EnvOk P A stk hp' env loc s':=by
 have hn:∀a,stk a→hp a=ae:=λa z=>by
  cases q:hp a with
  |none=>rfl
  |some o=>exact absurd z (ok.apart a (by rw[q];intro z;cases z))
 have ky:=e.keepy (stk:=stk) (λw z=>z.elim)
 refine⟨x.kind,x.glob,x.blt,?_,λi v h k=>?_,x.stkL,x.stkC,λn k=>?_,x.apart,x.apartL,x.frs.step e,x.top⟩
 ·refine x.ns.elim λm r1_=>r1_.elim λe2_ h=>e2_.elim λo r3_=>r3_.elim λes r4_=>r4_.elim λep r5_=>r5_.elim λg r=>?_
  have ns':s'.heap.Ns env.locals m:=by
   rcases e.keep _ _ (hn _ x.stkL) (λz=>z) g with g'|⟨_,_,sl,g'⟩
   ·exact⟨o,es,ep,g',r⟩
   ·exact⟨_,es,ep,g',r⟩
  refine⟨m,ns',λi v a b=>?_⟩
  refine(h i v a b).elim λy r1_=>r1_.elim λp q=>?_
  exact⟨y,p,q.keep ky⟩
 ·refine(x.cell i v h k).elim λc r1_=>r1_.elim λy r2_=>r2_.elim λp r3_=>r3_.elim λe4_ q=>e4_.elim λo r5_=>r5_.elim λg r=>?_
  exact⟨c,y,p,⟨o,e.same (hn _ (x.stkC _ _ p)) (λz=>z) (.inr (isD_cell r)) g,r⟩,q.keep ky⟩
 ·refine(x.cells n k).elim λc r1_=>r1_.elim λy r2_=>r2_.elim λp e3_=>e3_.elim λo r4_=>r4_.elim λg r=>?_
  exact⟨c,y,p,⟨o,e.same (hn _ (x.stkC _ _ p)) (λz=>z) (.inr (isD_cell r)) g,r⟩⟩
noncomputable abbrev XA:=Nat→Hp→Prop
noncomputable abbrev DE:=(V→Hp→Prop)→XA→bk→Hp→Prop
noncomputable abbrev iq:=Nat×Hp→Value→Hp→af→Prop
inductive lX(Fl:iq)(X:XA)(e:Value)(hp:Hp)(s:af):Prop
 |intro (k:Nat×Hp) (x:X k.1 k.2) (l:Fl k e hp s):lX Fl X e hp s
inductive PV(P:dH)(stk:Addr→Prop)(Q:V→Hp→Prop)(x:Value)(hp:Hp)(s:af):Prop
 |intro (v:V) (q:Q v hp) (r:P.VR stk hp s.heap v x):PV P stk Q x hp s
variable(P:dH)(Fl:iq)
noncomputable def bU(d:Nat)(sc:Scope)(e:Expr)(D:DE):Prop:=
 ∀(A:aC)(env:Env)(s:af)(Q:V→Hp→Prop)(X:XA)(loc:bk)(hp:Hp)(stk:Addr→Prop),
  fA d A→env.scope=sc→EnvOk P A stk hp env loc s→HeapOk P stk hp s→D Q X loc hp→
  T P no1 stk A (eval e env) hp s (PV P stk Q) (lX Fl X)
variable{P Fl}
section
variable{d:Nat}{sc:Scope}
noncomputable def ai(i:Nat):DE:=λQ z loc hp=>∃v,loc i=some v∧Q v hp
theorem Sim.var{i:Nat}{x:Str}{pos:Pos}(hx:P.nm i=x)(hk:(match sc.names.lookup x with|some .local=>true|some .cell=>true|some .free=>true|_=>false)=true)
 (hd:(x==("__debug__" :Str))=false)(hc:(x==("__classdict__" :Str))=false):bU P Fl d sc (.Name x pos) (ai i):=by
 subst hx
 intro A env s Q X loc hp stk _ hs ev ok i1_;refine i1_.elim λv r2_=>r2_.elim λhv hq=>?_
 refine wpAny_Name ?_ hd
 have hkind:env.kindOf (P.nm i)=sc.names.lookup (P.nm i):=by rw[←hs];rfl
 rw[←hkind]at hk
 cases q:env.kindOf (P.nm i)with
 |none=>rw[q]at hk;cases hk
 |some k=>
  rw[q]at hk
  cases k with
  |«local»=>
   refine ev.ns.elim λm r1_=>r1_.elim λn h=>?_
   obtain⟨y,p,r⟩:=h i v hv q
   exact wpAny_loadName_local ev.kind q n p ⟨hp,.refl ..,ok,v,hq,r⟩
  |cell=>
   obtain⟨c,y,p,g,r⟩:=ev.cell i v hv (.inl q)
   exact wpAny_loadName_cell ev.kind q p g ⟨hp,.refl ..,ok,v,hq,r⟩
  |free=>
   obtain⟨c,y,p,g,r⟩:=ev.cell i v hv (.inr q)
   exact wpAny_loadName_free ev.kind q p g ⟨hp,.refl ..,ok,v,hq,r⟩ hc
  |_=>cases hk
noncomputable def aQ(v:V):DE:=λQ z z hp=>Q v hp
theorem Sim.glob{mg mb:Str→Option Value}(tp:eL P mg mb){x:Str}{pos:Pos}{v:Value}(hk:sc.names.lookup x=some .globalImplicit)(hd:(x==("__debug__" :Str))=false)
 (hv:mg x=some v):bU P Fl d sc (.Name x pos) (aQ (.fn v)):=by
 intro A env s Q X loc hp stk _ hs ev ok hq
 refine wpAny_Name ?_ hd
 have hkind:env.kindOf x=some .globalImplicit:=by rw[←hk,←hs];rfl
 rw[ly ev.kind hkind]
 refine qh (mg:=mg) ?_ hv ⟨hp,.refl ..,ok,_,hq,by simp only[VRe]⟩
 rw[ev.glob];exact tp.g.keeps ok.base
theorem Sim.built{mg mb:Str→Option Value}(tp:eL P mg mb){x:Str}{pos:Pos}{v:Value}(hk:sc.names.lookup x=some .globalImplicit)(hd:(x==("__debug__" :Str))=false)
 (hm:mg x=ae)(hv:mb x=some v):bU P Fl d sc (.Name x pos) (aQ (.fn v)):=by
 intro A env s Q X loc hp stk _ hs ev ok hq
 refine wpAny_Name ?_ hd
 have hkind:env.kindOf x=some .globalImplicit:=by rw[←hk,←hs];rfl
 rw[ly ev.kind hkind]
 refine CG (mg:=mg) (mb:=mb) ?_ hm ?_ hv ⟨hp,.refl ..,ok,_,hq,by simp only[VRe]⟩
 ·rw[ev.glob];exact tp.g.keeps ok.base
 ·rw[ev.blt];exact tp.b.keeps ok.base
theorem Sim.cInt{i:Int}{k:Nat}{pos:Pos}:bU P Fl d sc (.Constant (.int i) k pos) (aQ (.int i)):=
 λA env s Q X loc hp stk z z z ok hq=>wpAny_Constant_int ⟨hp,.toks _,ok.toks _,_,hq,by simp only[VRe];exact⟨_,rfl⟩⟩
theorem Sim.cNone{k:Nat}{pos:Pos}:bU P Fl d sc (.Constant .none k pos) (aQ .none):=
 λA env s Q X loc hp stk z z z ok hq=>Br ⟨hp,.refl ..,ok,_,hq,by simp only[VRe]⟩
theorem Sim.cBool{b:Bool}{k:Nat}{pos:Pos}:bU P Fl d sc (.Constant (.bool b) k pos) (aQ (.bool b)):=
 λA env s Q X loc hp stk z z z ok hq=>wpAny_Constant_bool ⟨hp,.refl ..,ok,_,hq,by simp only[VRe]⟩
theorem Sim.cStr{x:Str}{l:List Nat}{k:Nat}{pos:Pos}(h:x=⟨l.toArray⟩):bU P Fl d sc (.Constant (.str x) k pos) (aQ (.str l)):=
 λA env s Q X loc hp stk z z z ok hq=>wpAny_Constant_str ⟨hp,.toks _,ok.toks _,_,hq,by simp only[VRe];exact⟨_,by rw[h]⟩⟩
noncomputable abbrev B2:=V→V→(V→Hp→Prop)→Hp→Prop
noncomputable def aZ(b:B2)(l r:DE):DE:=λQ X loc hp=>l (λx hp1=>r (λy hp2=>b x y Q hp2) X loc hp1) X loc hp
noncomputable def pc(P:dH)(Fl:iq)(f:Value→Value→Sem Value)(b:B2):Prop:=
 ∀(A:aC)(s:af)(Q:V→Hp→Prop)(X:XA)(hp:Hp)(stk:Addr→Prop)(v u:V)(x y:Value),fA 0 A→HeapOk P stk hp s→P.VR stk hp s.heap v x→P.VR stk hp s.heap u y→b v u Q hp→
  T P no1 stk A (f x y) hp s (PV P stk Q) (lX Fl X)
theorem fE{stk:Addr→Prop}{hp hp':Hp}{s s':af}{v:V}{x:Value}(e:Ext no1 stk hp s hp' s')(h:P.VR stk hp s.heap v x):P.VR stk hp' s'.heap v x:=VR.keep (e.keepy λy z=>z.elim) h
theorem j5{stk:Addr→Prop}{hp hp':Hp}{s s':af}{v:List V}{x:List Value}(e:Ext no1 stk hp s hp' s')(h:P.VRs stk hp s.heap v x):P.VRs stk hp' s'.heap v x:=VRs.keep (e.keepy λy z=>z.elim) h
theorem two{A:aC}{env:Env}{s:af}{loc:bk}{hp:Hp}{stk:Addr→Prop}{l r:Expr}{dl dr:DE}{Q:V→Hp→Prop}{X:XA}{f:Value→Value→Sem Value}{b:B2}(hl:bU P Fl d sc l dl)(hr:bU P Fl d sc r dr)(hf:pc P Fl f b)
 (rm:fA d A)(hs:env.scope=sc)(ev:EnvOk P A stk hp env loc s)(ok:HeapOk P stk hp s)(h:aZ b dl dr Q X loc hp):
 wpAny P.M A (eval l env) (λa s₁=>wpAny P.M A (eval r env) (λb s₂=>wpAny P.M A (f a b) (PostT P no1 stk hp s (PV P stk Q)) (PostT P no1 stk hp s (lX Fl X)) s₂) (PostT P no1 stk hp s (lX Fl X)) s₁) (PostT P no1 stk hp s (lX Fl X)) s:=by
 refine(hl A env s _ X loc hp stk rm hs ev ok h).thn λa hp1 s1 e1 ok1 hq=>?_
 obtain⟨v,q1,r1⟩:=hq
 refine wpAny_mono (hr A env s1 _ X loc hp1 stk rm hs (ev.step ok e1) ok1 q1) (λy s2 hq=>?_) λx x z=>z.back P e1
 obtain⟨hp2,e2,ok2,u,q2,r2⟩:=hq
 exact T.nxt (e1.trans e2) (hf A s2 Q X hp2 stk v u a y (rm.less (bx _)) ok2 (fE e2 r1) r2 q2)
theorem Sim.bin{l r:Expr}{op:Operator}{pos:Pos}{dl dr:DE}{b:B2}(hb:pc P Fl (binaryOp op) b)(hl:bU P Fl d sc l dl)(hr:bU P Fl d sc r dr):bU P Fl d sc (.BinOp l op r pos) (aZ b dl dr):=
 λA env s Q X loc hp stk rm hs ev ok h=>wpAny_BinOp (two hl hr hb rm hs ev ok h)
theorem Sim.cmp{l r:Expr}{op:CmpOp}{pos:Pos}{dl dr:DE}{b:B2}(hb:pc P Fl (compareOp op) b)(hl:bU P Fl d sc l dl)(hr:bU P Fl d sc r dr)(hm:behindInMarks op r=false):bU P Fl d sc (.Compare l [op] [r] pos) (aZ b dl dr):=
 λA env s Q X loc hp stk rm hs ev ok h=>wpAny_Compare1 (two hl hr hb rm hs ev ok h) hm
end
end Mine
namespace Mine
variable{P:dH}{Fl:iq}
noncomputable def lim:Nat:=1000000
theorem fB:lim≤sizeLine:=by decide
noncomputable def cg(hp:Hp):V→Option (List V)
 | .lst vs=>some vs
 | .ref a=>match hp a with
   |some (.lst vs)=>some vs
   |_=>ae
 |_=>ae
theorem listOf_ref{hp:Hp}{a:Addr}{us:List V}(h:hp a=some (.lst us)):cg hp (.ref a)=some us:=congrArg (λo=>match o with|some (O.lst vs)=>some vs|_=>ae) h
theorem bz{stk:Addr→Prop}{hp:Hp}{s:af}{v:V}{x:Value}{vs:List V}(ok:HeapOk P stk hp s)(r:P.VR stk hp s.heap v x)(h:cg hp v=some vs):
 ∃a xs,x= .ref a∧s.heap.PlainList a xs∧P.VRs stk hp s.heap vs xs.toList:=by
 cases v with
 |lst us=>cases h;simp only[VRe]at r;refine r.elim λa r1_=>r1_.elim λxs r2_=>r2_.elim λe r3_=>r3_.elim λy r5_=>r5_.elim λp q=>?_;exact⟨a,xs,e,p,q⟩
 |ref a=>
  simp only[VRe]at r
  change (match hp a with|some (.lst vs)=>some vs|_=>ae)=_ at h
  cases q:hp a with
  |none=>rw[q]at h;cases h
  |some o=>
   rw[q]at h
   cases o with
   |lst us=>cases h;refine(ok.obj a _ q).elim λxs r1_=>r1_.elim λp z=>?_;exact⟨a,xs,r,p,z⟩
   |_=>cases h
 |_=>cases h
theorem VRs.length{F:Addr→Prop}{h:Heap}:∀{vs:List V}{xs:List Value},VRs P.nm F h vs xs→xs.length=vs.length:=by
 intro xs_
 induction xs_ with
 |nil=>
  intro xs r
  simp only[VRse]at r;subst r;rfl
 |cons v vs ih=>
  intro xs r
  simp only[VRse]at r
  obtain⟨y,ys,rfl,_,q⟩:=r
  simp[ih q]
theorem VRs.append{F:Addr→Prop}{h:Heap}:∀{vs us:List V}{xs ys:List Value},VRs P.nm F h vs xs→VRs P.nm F h us ys→VRs P.nm F h (vs++us) (xs++ys):=by
 intro xs_
 induction xs_ with
 |nil=>
  intro us xs ys r q
  simp only[VRse]at r;subst r;exact q
 |cons v vs ih=>
  intro us xs ys r q
  simp only[VRse]at r
  obtain⟨y,zs,rfl,p,r⟩:=r
  dsimp only[dq,VRse]
  exact⟨y,zs++ys,rfl,p,ih r q⟩
theorem VRs.get{F:Addr→Prop}{h:Heap}:∀{vs:List V}{xs:List Value}{i:Nat}{v:V},VRs P.nm F h vs xs→vs[i]?=some v→∃x,xs[i]?=some x∧VR P.nm F h v x
 | [],_,_,_,_,e=>by cases e
 |v::vs,xs,0,_,r,e=>by
  simp only[VRse]at r
  obtain⟨y,ys,rfl,p,_⟩:=r
  cases e
  exact⟨y,rfl,p⟩
 |v::vs,xs,i+1,_,r,e=>by
  simp only[VRse]at r
  obtain⟨y,ys,rfl,p,q⟩:=r
  have:=VRs.get q (i:=i) (by simpa using e)
  simpa using this
theorem ja{stk:Addr→Prop}{hp:Hp}{s:af}(ok:HeapOk P stk hp s):Fz stk hp s.heap.objs.size:=fz_of_new ok (by
 cases q:s.heap.get? s.heap.objs.size with
 |none=>rfl
 |some o=>exact absurd (bJ q) (dh _))
theorem eV(h:Heap):h.get? h.objs.size=ae:=by
 cases q:h.get? h.objs.size with
 |none=>rfl
 |some o=>exact absurd (bJ q) (dh _)
theorem iQ{stk:Addr→Prop}{hp:Hp}{h h':Heap}(k:∀b o,h.get? b=some o→h'.get? b=some o){vs:List V}{xs:List Value}(r:P.VRs stk hp h vs xs):P.VRs stk hp h' vs xs:=VRs.keep (λa o f g=>⟨f,k a o g⟩) r
theorem rT{stk:Addr→Prop}{hp:Hp}{h h':Heap}(k:∀b o,h.get? b=some o→h'.get? b=some o){v:V}{x:Value}(r:P.VR stk hp h v x):P.VR stk hp h' v x:=VR.keep (λa o f g=>⟨f,k a o g⟩) r
theorem j7{own stk:Addr→Prop}{hp:Hp}{s:af}{vs:List V}{xs:Array Value}{tk:Nat}{n:Nat}{Q:V→Hp→Prop}(ok:HeapOk P stk hp s)(r:P.VRs stk hp s.heap vs xs.toList)(hq:Q (.lst vs) hp):
 PostT P own stk hp s (PV P stk Q) (.ref s.heap.objs.size) {s with heap:=s.heap.push {cls:=.type "list",data:=.seq xs n},toks:=tk}:=by
 have k:∀b o,s.heap.get? b=some o→(s.heap.push {cls:=.type "list",data:=.seq xs n}).get? b=some o:=λb o e=>an _ e
 refine⟨hp,Ext.grow (stk:=stk) k,ok.grow k,.lst vs,hq,?_⟩
 dsimp only[VRe]
 exact⟨_,xs,rfl,ja ok,⟨n,aw _ rfl⟩,iQ k r⟩
theorem uE{own stk:Addr→Prop}{hp:Hp}{s:af}{vs:List V}{xs:Array Value}{tk:Nat}{n:Nat}{Q:V→Hp→Prop}(ok:HeapOk P stk hp s)(r:P.VRs stk hp s.heap vs xs.toList)(hq:Q (.tup vs) hp):
 PostT P own stk hp s (PV P stk Q) (.ref s.heap.objs.size) {s with heap:=s.heap.push {cls:=.type "tuple",data:=.seq xs n},toks:=tk}:=by
 have k:∀b o,s.heap.get? b=some o→(s.heap.push {cls:=.type "tuple",data:=.seq xs n}).get? b=some o:=λb o e=>an _ e
 refine⟨hp,Ext.grow (stk:=stk) k,ok.grow k,.tup vs,hq,?_⟩
 dsimp only[VRe]
 exact⟨_,xs,rfl,ja ok,⟨n,aw _ rfl⟩,iQ k r⟩
theorem here{own stk:Addr→Prop}{hp:Hp}{s:af}{Q:V→Hp→Prop}(ok:HeapOk P stk hp s){v:V}{x:Value}(hq:Q v hp)(r:P.VR stk hp s.heap v x):PostT P own stk hp s (PV P stk Q) x s:=⟨hp,.refl ..,ok,v,hq,r⟩
theorem gY{own stk:Addr→Prop}{hp:Hp}{s:af}{Q:V→Hp→Prop}(ok:HeapOk P stk hp s){v:V}{x:Value}{tk:Nat}(hq:Q v hp)(r:P.VR stk hp s.heap v x):PostT P own stk hp s (PV P stk Q) x {s with toks:=tk}:=⟨hp,.toks _,ok.toks _,v,hq,r⟩
theorem vInt{F:Addr→Prop}{h:Heap}{i:Int}{t:Tok}:VR P.nm F h (.int i) (.int i t):=by simp only[VRe];exact⟨t,rfl⟩
theorem lW{F:Addr→Prop}{h:Heap}{b:Bool}:VR P.nm F h (.bool b) (.bool b):=by rfl
theorem vNone{F:Addr→Prop}{h:Heap}:VR P.nm F h .none .none:=by rfl
theorem xk{F:Addr→Prop}{h:Heap}{l:List Nat}{t:Tok}:VR P.nm F h (.str l) (.str ⟨l.toArray⟩ t):=by simp only[VRe];exact⟨t,rfl⟩
theorem sJ{F:Addr→Prop}{h:Heap}{a:Addr}:VR P.nm F h (.ref a) (.ref a):=by rfl
theorem kq{nm:Nat→Str}{F:Addr→Prop}{h:Heap}{i:Int}{x:Value}(r:Mine.VR nm F h (.int i) x):∃t,x= .int i t:=by simpa only[VRe]using r
theorem rL{nm:Nat→Str}{F:Addr→Prop}{h:Heap}{l:List Nat}{x:Value}(r:Mine.VR nm F h (.str l) x):∃t,x= .str ⟨l.toArray⟩ t:=by simpa only[VRe]using r
noncomputable def k9:V→Option Int
 | .int i=>some i
 |_=>ae
noncomputable def u6:V→Option (List Nat)
 | .str i=>some i
 |_=>ae
theorem asInt_inv{v:V}{i:Int}(h:k9 v=some i):v= .int i:=by cases v<;>cases h;rfl
theorem asStr_inv{v:V}{i:List Nat}(h:u6 v=some i):v= .str i:=by cases v<;>cases h;rfl
noncomputable def bothO{α β:Type}(a:Option α)(b:Option β)(f:α→β→Prop)(g:Prop):Prop:=match a with
 | .none=>g
 |some x=>match b with
  | .none=>g
  |some y=>f x y
theorem bothO_inv{α β:Type}{a:Option α}{b:Option β}{f:α→β→Prop}{g:Prop}(h:bothO a b f g):(∃x y,a=some x∧b=some y∧f x y)∨g:=by
 cases a with
 |none=>exact .inr h
 |some x=>cases b with
  |none=>exact .inr h
  |some y=>exact .inl ⟨x,y,rfl,rfl,h⟩
noncomputable def b2(r:Int→Int→V):B2:=λx y Q hp=>bothO (k9 x) (k9 y) (λa b=>Q (r a b) hp) False
noncomputable def EQ(c:Int→Int→Prop)(r:Int→Int→V):B2:=λx y Q hp=>bothO (k9 x) (k9 y) (λa b=>c a b∧Q (r a b) hp) False
noncomputable def ET(c:Int→Int→Prop)(r:Int→Int→V)(v u:V)(Q:V→Hp→Prop)(hp:Hp):Prop:=∃i j,v= .int i∧u= .int j∧c i j∧Q (r i j) hp
theorem vv{c:Int→Int→Prop}{r:Int→Int→V}(v u:V)(Q:V→Hp→Prop)(hp:Hp)(h:EQ c r v u Q hp):ET c r v u Q hp:=by
 rcases bothO_inv h with⟨i,j,e1,e2,h⟩|h
 ·exact⟨i,j,asInt_inv e1,asInt_inv e2,h⟩
 ·exact h.elim
theorem b2_inv{r:Int→Int→V}(v u:V)(Q:V→Hp→Prop)(hp:Hp)(h:b2 r v u Q hp):ET (λz z=>True) r v u Q hp:=by
 rcases bothO_inv h with⟨i,j,e1,e2,h⟩|h
 ·exact⟨i,j,asInt_inv e1,asInt_inv e2,trivial,h⟩
 ·exact h.elim
theorem okInt{f:Value→Value→Sem Value}{b:B2}{c:Int→Int→Prop}{r:Int→Int→V}(inv:∀v u Q hp,b v u Q hp→ET c r v u Q hp)
 (op:∀A s G E i j t t',c i j→(∀y tk,(∀F h,VR P.nm F h (r i j) y)→G y {s with toks:=tk})→wpAny P.M A (f (.int i t) (.int j t')) G E s):pc P Fl f b:=by
 intro A s Q X hp stk v u x y rm ok rv ru h
 obtain⟨i,j,rfl,rfl,hc,hq⟩:=inv v u Q hp h
 refine(kq rv).elim λt e1_=>?_;subst e1_
 obtain⟨t',rfl⟩:=kq ru
 exact op A s _ _ i j t t' hc λy tk hy=>gY ok hq (hy _ _)
noncomputable def mj(f:Int→Int→Int):B2:=b2 λa b=>.int (f a b)
noncomputable def ef:B2:=λx y Q hp=>bothO (k9 x) (k9 y) (λa b=>Q (.int (a+b)) hp)
 (bothO (u6 x) (u6 y) (λa b=>a.length+b.length≤lim∧Q (.str (a++b)) hp)
  (∃xs ys,cg hp x=some xs∧cg hp y=some ys∧xs.length+ys.length≤lim∧Q (.lst (xs++ys)) hp))
theorem wN{A:aC}{s:af}{Q:V→Hp→Prop}{X:XA}{hp:Hp}{stk:Addr→Prop}{v u:V}{x y:Value}{xs ys:List V}(ok:HeapOk P stk hp s)(rv:P.VR stk hp s.heap v x)(ru:P.VR stk hp s.heap u y)(h1:cg hp v=some xs)(h2:cg hp u=some ys)(hl:xs.length+ys.length≤lim)(hq:Q (.lst (xs++ys)) hp):
 T P no1 stk A (binaryOp .Add x y) hp s (PV P stk Q) (lX Fl X):=by
 obtain⟨a,as,rfl,⟨n,pa⟩,ra⟩:=bz ok rv h1
 obtain⟨b,bs,rfl,⟨m,pb⟩,rb⟩:=bz ok ru h2
 refine PySem.P.add_list (n:=n) (n2:=m) pa pb (j7 (tk:=s.toks) ok (by rw[jh];exact ra.append rb) hq) ?_
 rw[show as.size=xs.length from ra.length,show bs.size=ys.length from rb.length]
 exact ac hl fB
theorem zq{v u:V}{Q:V→Hp→Prop}{hp:Hp}(h:ef v u Q hp):(∃a b,v= .int a∧u= .int b∧Q (.int (a+b)) hp)∨(∃a b,v= .str a∧u= .str b∧a.length+b.length≤lim∧Q (.str (a++b)) hp)∨∃xs ys,cg hp v=some xs∧cg hp u=some ys∧xs.length+ys.length≤lim∧Q (.lst (xs++ys)) hp:=by
 rcases bothO_inv h with⟨i,j,e1,e2,h⟩|h
 ·exact .inl ⟨i,j,asInt_inv e1,asInt_inv e2,h⟩
 ·rcases bothO_inv h with⟨i,j,e1,e2,h⟩|h
  ·exact .inr (.inl ⟨i,j,asStr_inv e1,asStr_inv e2,h⟩)
  ·exact .inr (.inr h)
theorem ok_add:pc P Fl (binaryOp .Add) ef:=by
 intro A s Q X hp stk v u x y rm ok rv ru h
 rcases zq h with⟨a,b,rfl,rfl,h⟩|⟨a,b,rfl,rfl,hl,h⟩|⟨xs,ys,h1,h2,h3,h4⟩
 ·obtain⟨t,rfl⟩:=kq rv
  refine(kq ru).elim λt' e1_=>?_;subst e1_
  exact EG (gY ok h vInt)
 ·refine(rL rv).elim λt e1_=>?_;subst e1_
  refine(rL ru).elim λt' e1_=>?_;subst e1_
  refine EF (λt' tk=>gY (v:=.str (a++b)) ok h ?_) (ac hl fB)
  have:(⟨a.toArray⟩:Str)++⟨b.toArray⟩=⟨(a++b).toArray⟩:=by
   show Fj _ _=_
   simp[Fj]
  rw[this];exact xk
 ·exact wN ok rv ru h1 h2 h3 h4
theorem pn:pc P Fl (binaryOp .Sub) (mj (·- ·)):=okInt b2_inv λA s G E i j t t' z k=>Ey (k _ _ λz z=>vInt)
noncomputable def small(a:Int):Prop:= -(2 ^ 64)<a∧a<2 ^ 64
theorem wi{A:aC}{s:af}{G:Value→af→Prop}{E:Value→af→Prop}{i j:Int}{t t':Tok}(h:small i∨small j)(k:∀y tk,(∀F h,VR P.nm F h (.int (i*j)) y)→G y {s with toks:=tk}):wpAny P.M A (binaryOp .Mult (.int i t) (.int j t')) G E s:=
 EA (k _ _ λz z=>vInt) (h.elim (λq=>GX (Gc q.1 q.2)) λq=>GV (Gc q.1 q.2))
noncomputable def oz:B2:=EQ (λz b=>b≠0) λa b=>.int (a.fmod b)
theorem lg:pc P Fl (binaryOp .Mod) oz:=okInt vv λA s G E i j t t' h k=>EB h (k _ _ λz z=>vInt)
theorem qp{x y:Int}(h:x.natAbs<1073741824):oJ x y=false:=by
 unfold oJ
 have:(if x==0 then 0 else x.natAbs.log2 / 30+1)≤1:=by
  split
  ·omega
  ·rename_i hx
   have hx0:x.natAbs≠0:=by intro e;apply hx;simp;omega
   have:x.natAbs.log2<30:=(Nat.log2_lt hx0).mpr (by omega)
   omega
 simp only[Bool.and_eq_false_iff,decide_eq_false_iff_not]
 right
 omega
noncomputable def xr:B2:=EQ (λa b=>b≠0∧(a.natAbs<1073741824∨b.natAbs<1073741824)) λa b=>.int (a.fdiv b)
theorem t6:pc P Fl (binaryOp .FloorDiv) xr:=okInt vv λA s G E i j t t' h k=>EE h.1 (k _ _ λz z=>vInt) (.inl (h.2.elim qp PyProof.noPylong_small))
noncomputable def iZ(f:Int→Int→Bool):B2:=b2 λa b=>.bool (f a b)
theorem ok_lt:pc P Fl (compareOp .Lt) (iZ λa b=>decide (a<b)):=okInt b2_inv λA s G E i j t t' z k=>qu (k _ s.toks λz z=>lW)
theorem uV:pc P Fl (compareOp .LtE) (iZ λa b=>decide (a≤b)):=okInt b2_inv λA s G E i j t t' z k=>EC (k _ s.toks λz z=>lW)
theorem ok_ge:pc P Fl (compareOp .GtE) (iZ λa b=>decide (b≤a)):=okInt b2_inv λA s G E i j t t' z k=>ED (k _ s.toks λz z=>lW)
noncomputable def t9:V→Option Bool
 | .none=>some true
 | .bool _=>some false
 | .int _=>some false
 | .lst _=>some false
 | .tup _=>some false
 | .ref _=>some false
 |_=>ae
noncomputable def rj(b:Bool):V→Option Bool
 | .none=>some false
 | .bool a=>some (a==b)
 | .int _=>some false
 | .lst _=>some false
 | .ref _=>some false
 |_=>ae
noncomputable def ix(v:V):V→Option Bool
 | .none=>t9 v
 | .bool b=>rj b v
 |_=>ae
noncomputable def A7:B2:=λx y Q hp=>∃b,ix x y=some b∧Q (.bool b) hp
noncomputable def jq:B2:=λx y Q hp=>∃b,ix x y=some b∧Q (.bool (!b)) hp
theorem oneReal{F:Addr→Prop}{h:Heap}{v:V}{x:Value}{b:Bool}(r:VR P.nm F h v x)(c:t9 v=some b∨∃q,rj q v=some b):(v= .none∧x= .none)∨(∃q,v= .bool q∧x= .bool q)∨(∃a,x= .ref a∧t9 v=some false∧∀q,rj q v=some false∨rj q v=ae)∨∃i t,v= .int i∧x= .int i t:=by
 cases v<;>simp only[VRe]at r
 case none=>exact .inl ⟨rfl,r⟩
 case bool=>exact .inr (.inl ⟨_,rfl,r⟩)
 case int=>exact .inr (.inr (.inr ⟨_,r.choose,rfl,r.choose_spec⟩))
 case lst=>obtain⟨a,_,rfl,_⟩:=r;exact .inr (.inr (.inl ⟨a,rfl,rfl,λz=>.inl rfl⟩))
 case tup=>obtain⟨a,_,rfl,_⟩:=r;exact .inr (.inr (.inl ⟨a,rfl,rfl,λz=>.inr rfl⟩))
 case ref=>subst r;exact .inr (.inr (.inl ⟨_,rfl,rfl,λz=>.inl rfl⟩))
 all_goals (rcases c with c|⟨q,c⟩<;>cases c)
theorem isOne_plain{F:Addr→Prop}{h:Heap}{v u:V}{x y:Value}{b:Bool}(rv:VR P.nm F h v x)(ru:VR P.nm F h u y)(e:ix v u=some b):plainIs x y=true∧(x==y)=b:=by
 cases u with
 |none=>
  have hy:y= .none:=by simpa only[VRe]using ru
  subst hy
  rcases oneReal rv (.inl e)with⟨rfl,rfl⟩|⟨q,rfl,rfl⟩|⟨a,rfl,h1,_⟩|⟨i,t,rfl,rfl⟩
  ·cases e;exact⟨rfl,rfl⟩
  ·cases e;exact⟨rfl,rfl⟩
  ·cases h1.symm.trans e;exact⟨rfl,rfl⟩
  ·cases e;exact⟨rfl,rfl⟩
 |bool q=>
  have hy:y= .bool q:=by simpa only[VRe]using ru
  subst hy
  rcases oneReal rv (.inr ⟨q,e⟩)with⟨rfl,rfl⟩|⟨p,rfl,rfl⟩|⟨a,rfl,_,h1⟩|⟨i,t,rfl,rfl⟩
  ·cases e;exact⟨rfl,rfl⟩
  ·cases e;refine⟨rfl,?_⟩;cases p<;>cases q<;>rfl
  ·rcases h1 q with h1|h1<;>cases h1.symm.trans e
   exact⟨rfl,rfl⟩
  ·cases e;exact⟨rfl,rfl⟩
 |_=>cases e
theorem ok_is:pc P Fl (compareOp .Is) A7:=by
 intro A s Q X hp stk v u x y rm ok rv ru i1_;refine i1_.elim λb r2_=>r2_.elim λe hq=>?_
 obtain⟨p,q⟩:=isOne_plain rv ru e
 exact Ff p (by rw[q];exact here ok hq lW)
theorem ok_isNot:pc P Fl (compareOp .IsNot) jq:=by
 intro A s Q X hp stk v u x y rm ok rv ru i1_;refine i1_.elim λb r2_=>r2_.elim λe hq=>?_
 obtain⟨p,q⟩:=isOne_plain rv ru e
 exact wpAny_isNot_plain p (by rw[q];exact here ok hq lW)
end Mine
namespace Mine
variable{P:dH}{Fl:iq}
mutual
noncomputable def vK:V→Option PyData
 | .none=>some .none
 | .bool b=>some (.bool b)
 | .int i=>some (.int i)
 | .str l=>some (.str ⟨l.toArray⟩)
 | .tup vs=>(jo vs).map .tuple
 | .lst vs=>(jo vs).map .list
 |_=>ae
noncomputable def jo:List V→Option (List PyData)
 | []=>some []
 |v::vs=>(vK v).bind λd=>(jo vs).map (d::·)
end
noncomputable def pe(hp:Hp)(a:Addr):Option (List V):=match hp a with
 |some (.lst vs)=>some vs
 |_=>ae
theorem tf{hp:Hp}{a:Addr}{vs:List V}(h:hp a=some (.lst vs)):pe hp a=some vs:=by unfold pe;rw[h]
theorem yT{hp:Hp}{a:Addr}{vs:List V}(h:pe hp a=some vs):hp a=some (.lst vs):=by
 unfold pe at h
 revert h
 cases hp a with
 |none=>intro h;cases h
 |some o=>cases o<;>intro h<;>cases h;rfl
noncomputable def toD(hp:Hp):V→Option PyData
 | .ref a=>((pe hp a).bind jo).map .list
 |v=>vK v
mutual
theorem xN{F:Addr→Prop}{h:Heap}:∀{v:V}{x:Value}{d:PyData},VR P.nm F h v x→vK v=some d→∃as,Reads h x d as
 | .none,x,d,r,e=>by cases r;cases e;exact⟨_,.none⟩
 | .bool b,x,d,r,e=>by cases r;cases e;exact⟨_,.bool _⟩
 | .int i,x,d,r,e=>by obtain⟨t,rfl⟩:=r;cases e;exact⟨_,.int _ _⟩
 | .str l,x,d,r,e=>by obtain⟨t,rfl⟩:=r;cases e;exact⟨_,.str _ _⟩
 | .tup vs,x,d,r,e=>by
   obtain⟨a,xs,rfl,_,⟨n,g⟩,q⟩:=r
   obtain⟨ds,hds,rfl⟩:=dA.mp e
   obtain⟨as,z⟩:=reads0s q hds
   exact⟨_,.tuple g rfl rfl z⟩
 | .lst vs,x,d,r,e=>by
   obtain⟨a,xs,rfl,_,⟨n,g⟩,q⟩:=r
   obtain⟨ds,hds,rfl⟩:=dA.mp e
   obtain⟨as,z⟩:=reads0s q hds
   exact⟨_,.list g rfl rfl z⟩
 | .obj C fs,x,d,r,e=>by cases e
 | .ref a,x,d,r,e=>by cases e
 | .fn y,x,d,r,e=>by cases e
 | .rng lo hi,x,d,r,e=>by cases e
 | .vals y,x,d,r,e=>by cases e
 | .nxt y,x,d,r,e=>by cases e
theorem reads0s{F:Addr→Prop}{h:Heap}:∀{vs:List V}{xs:List Value}{ds:List PyData},VRs P.nm F h vs xs→jo vs=some ds→∃as,ReadsAll h xs ds as
 | [],xs,ds,r,e=>by cases r;cases e;exact⟨_,.nil⟩
 |v::vs,xs,ds,r,e=>by
  obtain⟨y,ys,rfl,p,q⟩:=r
  obtain⟨d,h1,h3⟩:=kj.mp e
  obtain⟨ds',h2,rfl⟩:=dA.mp h3
  obtain⟨as,z⟩:=xN p h1
  obtain⟨bs,z'⟩:=reads0s q h2
  exact⟨_,.cons z z'⟩
end
theorem lf{stk:Addr→Prop}{hp:Hp}{s:af}{v:V}{x:Value}{d:PyData}(ok:HeapOk P stk hp s)(r:P.VR stk hp s.heap v x)(e:toD hp v=some d):∃as,Reads s.heap x d as:=by
 cases v with
 |ref a=>
  cases r
  obtain⟨ds,h1,rfl⟩:=dA.mp e
  obtain⟨vs,hv,hds⟩:=kj.mp h1
  refine(ok.obj a _ (yT hv)).elim λxs r1_=>r1_.elim λe2_ q=>e2_.elim λn g=>?_
  obtain⟨as,z⟩:=reads0s q hds
  exact⟨_,.list g rfl rfl z⟩
 |_=>exact xN r e
noncomputable def pX:B2:=λx y Q hp=>∃a b,toD hp x=some a∧toD hp y=some b∧bO a=true∧bO b=true∧Q (.bool (cy a b)) hp
noncomputable def q9:B2:=λx y Q hp=>∃a b,toD hp x=some a∧toD hp y=some b∧bO a=true∧bO b=true∧Q (.bool (!cy a b)) hp
theorem ok_eq:pc P Fl (compareOp .Eq) pX:=by
 rintro A s Q X hp stk v u x y rm ok rv ru ⟨a,b,e1,e2,s1,s2,hq⟩
 obtain⟨as,r1⟩:=lf ok rv e1
 obtain⟨bs,r2⟩:=lf ok ru e2
 exact eq_dataH r1 r2 s1 s2 (by have:=rm.units;lia) (here ok hq lW)
theorem ok_ne:pc P Fl (compareOp .NotEq) q9:=by
 rintro A s Q X hp stk v u x y rm ok rv ru ⟨a,b,e1,e2,s1,s2,hq⟩
 obtain⟨as,r1⟩:=lf ok rv e1
 obtain⟨bs,r2⟩:=lf ok ru e2
 exact ne_dataH r1 r2 s1 s2 (by have:=rm.units;lia) (here ok hq lW)
noncomputable def BO(hp:Hp)(x c:V)(r:Bool):Prop:=∃ds d,toD hp c=some (.list ds)∧toD hp x=some d∧bO (.list ds)=true∧bO d=true∧r=ds.any (λy=>cy y d)
noncomputable def inO(hp:Hp)(x:V)(a:Addr)(r:Bool):Option O→Prop
 |some (.dict es _)=>∃k,x= .int k∧r=es.any (λe=>decide (e.1=k))
 |some (.set xs)=>∃k,x= .int k∧r=decide (k∈xs)
 |_=>BO hp x (.ref a) r
noncomputable def qA(hp:Hp)(x c:V)(r:Bool):Prop:=match c with
 | .ref a=>inO hp x a r (hp a)
 |c=>BO hp x c r
theorem inRes_o{hp:Hp}{x:V}{a:Addr}{r:Bool}{o:O}(h:hp a=some o):qA hp x (.ref a) r=inO hp x a r (some o):=congrArg (inO hp x a r) h
noncomputable def p9:B2:=λx c Q hp=>∃r,qA hp x c r∧Q (.bool r) hp
noncomputable def i2:B2:=λx c Q hp=>∃r,qA hp x c r∧Q (.bool (!r)) hp
theorem yp{F:Addr→Prop}{h:Heap}{k:Int}:∀{es:List (Int×V)}{kvs:List (Int×Value)},ER P.nm F h es kvs→(valueAt kvs k).isSome=es.any (λe=>decide (e.1=k))
 | [],kvs,r=>by cases r;rfl
 |(i,v)::es,kvs,r=>by
  obtain⟨y,ys,rfl,_,q⟩:=r
  have ih:=yp (k:=k) q
  dsimp only[valueAt,cF,kh]at ih⊢
  by_cases hk:i=k
  ·simp[hk]
  ·simp only[hk,decide_false,Bool.false_or]
   exact ih
theorem mP{stk:Addr→Prop}{hp:Hp}{s:af}(ok:HeapOk P stk hp s){a:Addr}{o:O}(h:hp a=some o)(hz:(P.H₀.get? sysModules).isSome=true):(a==sysModules)=false:=by
 cases q:a==sysModules with
 |false=>rfl
 |true=>
  have:a=sysModules:=by simpa using q
  subst this
  have:=ok.new _ (by rw[h];intro z;cases z)
  rw[this]at hz;cases hz
theorem in_core(hz:(P.H₀.get? sysModules).isSome=true){A:aC}{s:af}{hp:Hp}{stk:Addr→Prop}{v u:V}{x y:Value}{r:Bool}(rm:fA 0 A)(ok:HeapOk P stk hp s)(rv:P.VR stk hp s.heap v x)(ru:P.VR stk hp s.heap u y)(h:qA hp v u r):
 (∀(Q:Value→af→Prop) E,(∀n,Q (.bool r) {s with toks:=n})→wpAny P.M A (compareOp .In x y) Q E s)∧(∀(Q:Value→af→Prop) E,(∀n,Q (.bool (!r)) {s with toks:=n})→wpAny P.M A (compareOp .NotIn x y) Q E s):=by
 have lists:BO hp v u r→(∀(Q:Value→af→Prop) E,(∀n,Q (.bool r) {s with toks:=n})→wpAny P.M A (compareOp .In x y) Q E s)∧(∀(Q:Value→af→Prop) E,(∀n,Q (.bool (!r)) {s with toks:=n})→wpAny P.M A (compareOp .NotIn x y) Q E s):=by
  rintro⟨ds,d,e1,e2,s1,s2,rfl⟩
  obtain⟨as,r1⟩:=lf ok ru e1
  refine(lf ok rv e2).elim λbs r2=>?_
  have c1:fS ds=true:=by have:=d4 s1;simpa[fp]using this
  have rr:=Fh (A:=A) (xs:=ds) s2 (by have:=rm.units;lia)
  exact⟨λQ E q=>SeqAt.in_list_reads r1 r2 c1 (d4 s2) rr (q s.toks),λQ E q=>SeqAt.notIn_list_reads r1 r2 c1 (d4 s2) rr (q s.toks)⟩
 cases u with
 |ref a=>
  cases ru
  change inO hp v a r (hp a)at h
  obtain he|⟨o,he⟩:hp a=ae∨∃o,hp a=some o:=by cases hp a with|none=>exact .inl rfl|some o=>exact .inr ⟨o,rfl⟩
  ·rw[he]at h;exact lists h
  rw[he]at h
  cases o with
  |dict es ep=>
   obtain⟨k,rfl,rfl⟩:=h
   obtain⟨t,rfl⟩:=rv
   refine(ok.obj a _ he).elim λkvs r1_=>r1_.elim λhd er=>?_
   replace hd:=hd.dictOf
   have hs:=mP ok he hz
   have hk:(intKind P.prog P.w).is k (.int k t)=true:=kr _ _ _ _
   rw[←yp er]
   refine⟨λQ E q=>wpAny_in_of hk hs hd.mapOf (q _),λQ E q=>wpAny_notIn_of hk hs hd.mapOf (q _)⟩
  |set xs=>
   obtain⟨k,rfl,rfl⟩:=h
   refine rv.elim λt e1_=>?_;subst e1_
   have hd:=ok.obj a _ he
   have hk:(intKind P.prog P.w).is k (.int k t)=true:=kr _ _ _ _
   exact⟨λQ E q=>wpAny_inSet_of hk rfl hd (q _),λQ E q=>wpAny_notInSet_of hk rfl hd (q _)⟩
  |_=>exact lists h
 |_=>exact lists h
theorem ok_in(hz:(P.H₀.get? sysModules).isSome=true):pc P Fl (compareOp .In) p9:=by
 rintro A s Q X hp stk v u x y rm ok rv ru ⟨r,h,hq⟩
 exact(in_core hz rm ok rv ru h).1 _ _ λn=>gY ok hq lW
theorem ok_notIn(hz:(P.H₀.get? sysModules).isSome=true):pc P Fl (compareOp .NotIn) i2:=by
 rintro A s Q X hp stk v u x y rm ok rv ru ⟨r,h,hq⟩
 exact(in_core hz rm ok rv ru h).2 _ _ λn=>gY ok hq lW
end Mine
namespace Mine
noncomputable abbrev DT:=(Bool→Hp→Prop)→XA→bk→Hp→Prop
noncomputable def SimT(P:dH)(Fl:iq)(d:Nat)(sc:Scope)(e:Expr)(D:DT):Prop:=
 ∀(A:aC)(env:Env)(s:af)(Q:Bool→Hp→Prop)(X:XA)(loc:bk)(hp:Hp)(stk:Addr→Prop),
  fA d A→env.scope=sc→EnvOk P A stk hp env loc s→HeapOk P stk hp s→D Q X loc hp→
  T P no1 stk A (isTrue e env (eval e env)) hp s (λb hp' s'=>Q b hp') (lX Fl X)
variable{P:dH}{Fl:iq}{d:Nat}{sc:Scope}
noncomputable def gj(hp:Hp):V→Option Bool
 | .none=>some false
 | .bool b=>some b
 | .int i=>some (i !=0)
 | .lst vs=>some (!vs.isEmpty)
 | .ref a=>match hp a with
   |some (.lst vs)=>some (!vs.isEmpty)
   |_=>ae
 |_=>ae
theorem qK{A:aC}{s:af}{Q:Bool→Hp→Prop}{X:XP}{hp:Hp}{stk:Addr→Prop}{v:V}{x:Value}{b:Bool}(ok:HeapOk P stk hp s)(r:P.VR stk hp s.heap v x)(e:gj hp v=some b)
 (hsz:∀vs,cg hp v=some vs→vs.length≤lim)(hq:Q b hp):T P no1 stk A (truthy x) hp s (λb hp' s'=>Q b hp') X:=by
 have lists:∀vs,cg hp v=some vs→b= !vs.isEmpty→T P no1 stk A (truthy x) hp s (λb hp' s'=>Q b hp') X:=by
  intro vs hv hb
  obtain⟨a,xs,rfl,p,q⟩:=bz ok r hv
  have hl:=q.length
  have hn:=hsz vs hv
  have:xs.size=xs.toList.length:=by simp
  refine CR p.isList ?_ ⟨hp,.toks _,ok.toks _,?_⟩
  ·unfold lim at hn;lia
  ·have:(!xs.isEmpty)=b:=by
    rw[hb]
    cases vs with
    |nil=>have:xs= #[]:=by apply oK;rw[this,hl];rfl
          rw[this];rfl
    |cons v vs=>
     have:xs.isEmpty=false:=by
      rw[qx]
      intro e0;rw[e0]at hl;simp at hl
     rw[this];rfl
   rw[this];exact hq
 cases v with
 |none=>cases r;cases e;exact wpAny_of_eq (a:=false) rfl ⟨hp,.refl ..,ok,hq⟩
 |bool c=>cases r;cases e;exact wpAny_truthy_bool ⟨hp,.refl ..,ok,hq⟩
 |int i=>obtain⟨t,rfl⟩:=r;cases e;exact Ex ⟨hp,.refl ..,ok,hq⟩
 |lst vs=>cases e;exact lists vs rfl rfl
 |ref a=>
  have e':(match hp a with|some (.lst vs)=>some (!vs.isEmpty)|_=>ae)=some b:=e
  cases hv:hp a with
  |none=>rw[hv]at e';cases e'
  |some o=>
   cases o with
   |lst vs=>rw[hv]at e';cases e';exact lists vs (listOf_ref hv) rfl
   |_=>rw[hv]at e';cases e'
 |_=>cases e
noncomputable def me(t:DE):DT:=λQ X loc hp=>t (λv hp1=>∃b,gj hp1 v=some b∧(∀vs,cg hp1 v=some vs→vs.length≤lim)∧Q b hp1) X loc hp
theorem SimT.val{e:Expr}{D:DE}(h:bU P Fl d sc e D)(he:∀env whole,isTrue e env whole=(do let v←whole;standAt e.pos;holding [v] (truthy v))):SimT P Fl d sc e (me D):=by
 intro A env s Q X loc hp stk rm hs ev ok hD
 refine wpAny_isTrue_value ?_ (he env _)
 exact(h A env s _ X loc hp stk rm hs ev ok hD).thn (by rintro a hp1 s1 e1 ok1 ⟨v,⟨b,tb,hsz,q⟩,r⟩;exact T.nxt e1 (qK ok1 r tb hsz q))
noncomputable def cG(b:B2)(l r:DE):DT:=λQ X loc hp=>l (λx hp1=>r (λy hp2=>b x y (λv hp3=>∃c,v= .bool c∧Q c hp3) hp2) X loc hp1) X loc hp
theorem SimT.cmp{l r:Expr}{op:CmpOp}{pos:Pos}{dl dr:DE}{b:B2}(hb:pc P Fl (compareOp op) b)(hl:bU P Fl d sc l dl)(hr:bU P Fl d sc r dr)(hm:behindInMarks op r=false:=by rfl):SimT P Fl d sc (.Compare l [op] [r] pos) (cG b dl dr):=by
 intro A env s Q X loc hp stk rm hs ev ok h
 refine wpAny_isTrue_Compare1 ?_ hm
 refine(hl A env s _ X loc hp stk rm hs ev ok h).thn λa hp1 s1 e1 ok1 hq=>?_
 obtain⟨v,q1,r1⟩:=hq
 refine wpAny_mono (hr A env s1 _ X loc hp1 stk rm hs (ev.step ok e1) ok1 q1) (λy s2 hq=>?_) λx x z=>z.back P e1
 obtain⟨hp2,e2,ok2,u,q2,r2⟩:=hq
 refine wpAny_mono (hb A s2 _ X hp2 stk v u a y (rm.less (bx _)) ok2 (fE e2 r1) r2 q2) (λz s3 hq=>?_) λx x z=>z.back P (e1.trans e2)
 obtain⟨hp3,e3,ok3,t,⟨c,ht,q3⟩,r3⟩:=hq
 subst ht
 cases r3
 exact wpAny_truthy_bool ⟨hp3,(e1.trans e2).trans e3,ok3,q3⟩
noncomputable abbrev DTs:=(Bool→Hp→Prop)→XA→bk→Hp→Prop
noncomputable def iN(P:dH)(Fl:iq)(d:Nat)(sc:Scope)(op:BoolOp)(es:List Expr)(D:DTs):Prop:=
 ∀(A:aC)(env:Env)(s:af)(Q:Bool→Hp→Prop)(X:XA)(loc:bk)(hp:Hp)(stk:Addr→Prop),
  fA d A→env.scope=sc→EnvOk P A stk hp env loc s→HeapOk P stk hp s→D Q X loc hp→
  T P no1 stk A (allTrue op es env) hp s (λb hp' s'=>Q b hp') (lX Fl X)
noncomputable def i7(a b:DT):DT:=λQ X loc hp=>a (λc hp1=>if c then b Q X loc hp1 else Q false hp1) X loc hp
noncomputable def xf(a b:DT):DT:=λQ X loc hp=>a (λc hp1=>if c then Q true hp1 else b Q X loc hp1) X loc hp
theorem iN.andNil:iN P Fl d sc .And [] (λQ z z hp=>Q true hp):=λA env s Q X loc hp stk rm hs ev ok hD=>wpAny_allTrue_And_nil ⟨hp,.refl ..,ok,hD⟩
theorem iN.orNil:iN P Fl d sc .Or [] (λQ z z hp=>Q false hp):=λA env s Q X loc hp stk rm hs ev ok hD=>wpAny_allTrue_Or_nil ⟨hp,.refl ..,ok,hD⟩
theorem iN.and{e:Expr}{es:List Expr}{a b:DT}(h:SimT P Fl d sc e a)(hr:iN P Fl d sc .And es b):iN P Fl d sc .And (e::es) (i7 a b):=by
 intro A env s Q X loc hp stk rm hs ev ok hD
 refine wpAny_allTrue_And_cons ((h A env s _ X loc hp stk rm hs ev ok hD).thn λc hp1 s1 e1 ok1 q=>?_)
 cases c with
 |true=>exact T.nxt e1 (hr A env s1 Q X loc hp1 stk rm hs (ev.step ok e1) ok1 q)
 |false=>exact⟨hp1,e1,ok1,q⟩
theorem iN.or{e:Expr}{es:List Expr}{a b:DT}(h:SimT P Fl d sc e a)(hr:iN P Fl d sc .Or es b):iN P Fl d sc .Or (e::es) (xf a b):=by
 intro A env s Q X loc hp stk rm hs ev ok hD
 refine wpAny_allTrue_Or_cons ((h A env s _ X loc hp stk rm hs ev ok hD).thn λc hp1 s1 e1 ok1 q=>?_)
 cases c with
 |true=>exact⟨hp1,e1,ok1,q⟩
 |false=>exact T.nxt e1 (hr A env s1 Q X loc hp1 stk rm hs (ev.step ok e1) ok1 q)
theorem SimT.and2{x y:Expr}{pos:Pos}{a b:DT}(hx:SimT P Fl d sc x a)(hy:SimT P Fl d sc y b):SimT P Fl d sc (.BoolOp .And [x,y] pos) (i7 a (i7 b λQ z z hp=>Q true hp)):=
 λA env s Q X loc hp stk rm hs ev ok hD=>Bq (iN.and hx (iN.and hy iN.andNil) A env s Q X loc hp stk rm hs ev ok hD)
theorem SimT.or3{x y z:Expr}{pos:Pos}{a b c:DT}(hx:SimT P Fl d sc x a)(hy:SimT P Fl d sc y b)(hz:SimT P Fl d sc z c):SimT P Fl d sc (.BoolOp .Or [x,y,z] pos) (xf a (xf b (xf c λQ w w hp=>Q false hp))):=
 λA env s Q X loc hp stk rm hs ev ok hD=>Bq (iN.or hx (iN.or hy (iN.or hz iN.orNil)) A env s Q X loc hp stk rm hs ev ok hD)
noncomputable def BW(t:DT)(a b:DE):DE:=λQ X loc hp=>t (λc hp1=>if c then a Q X loc hp1 else b Q X loc hp1) X loc hp
theorem Sim.ite{t a b:Expr}{pos:Pos}{dt:DT}{da db:DE}(ht:SimT P Fl d sc t dt)(ha:bU P Fl d sc a da)(hb:bU P Fl d sc b db):bU P Fl d sc (.IfExp t a b pos) (BW dt da db):=by
 intro A env s Q X loc hp stk rm hs ev ok hD
 refine wpAny_IfExp ((ht A env s _ X loc hp stk rm hs ev ok hD).thn λc hp1 s1 e1 ok1 q=>?_)
 cases c with
 |true=>exact T.nxt e1 (ha A env s1 Q X loc hp1 stk rm hs (ev.step ok e1) ok1 q)
 |false=>exact T.nxt e1 (hb A env s1 Q X loc hp1 stk rm hs (ev.step ok e1) ok1 q)
noncomputable def zS(a:DE):DE:=λQ X loc hp=>a (λv hp1=>∃i,v= .int i∧Q (.int (-i)) hp1) X loc hp
theorem Sim.neg{a:Expr}{pos:Pos}{da:DE}(ha:bU P Fl d sc a da):bU P Fl d sc (.UnaryOp .USub a pos) (zS da):=by
 intro A env s Q X loc hp stk rm hs ev ok hD
 refine wpAny_UnaryOp ((ha A env s _ X loc hp stk rm hs ev ok hD).thn λx hp1 s1 e1 ok1 hq=>?_)
 obtain⟨v,⟨i,hv,q⟩,r⟩:=hq
 subst hv
 obtain⟨t,rfl⟩:=r
 exact Ez ⟨hp1,e1.trans (.toks _),ok1.toks _,_,q,vInt⟩
noncomputable def BV(a b:DE):DE:=λQ X loc hp=>a (λv hp1=>∃c,gj hp1 v=some c∧(∀vs,cg hp1 v=some vs→vs.length≤lim)∧if c then Q v hp1 else b Q X loc hp1) X loc hp
theorem Sim.or2{x y:Expr}{pos:Pos}{a b:DE}(hx:bU P Fl d sc x a)(hy:bU P Fl d sc y b):bU P Fl d sc (.BoolOp .Or [x,y] pos) (BV a b):=by
 intro A env s Q X loc hp stk rm hs ev ok hD
 refine wpAny_Or2 ((hx A env s _ X loc hp stk rm hs ev ok hD).thn λx hp1 s1 e1 ok1 hq=>?_)
 obtain⟨v,⟨c,tc,hsz,q⟩,r⟩:=hq
 refine wpAny_mono (qK (Q:=λb hp'=>b=c∧hp'=hp1) (X:=lX Fl X) ok1 r tc hsz ⟨rfl,rfl⟩) (λb s2 hq=>?_) λw w z=>z.back P e1
 obtain⟨hp2,e2,ok2,hb,hh⟩:=hq
 subst hb hh
 cases b with
 |true=>exact⟨_,e1.trans e2,ok2,v,q,fE e2 r⟩
 |false=>exact T.nxt (e1.trans e2) (hy A env s2 Q X loc _ stk rm hs (ev.step ok (e1.trans e2)) ok2 q)
end Mine
namespace Mine
noncomputable abbrev lV:=(List V→Hp→Prop)→XA→bk→Hp→Prop
noncomputable def SimA(P:dH)(Fl:iq)(d:Nat)(sc:Scope)(pos:Pos)(es:List Expr)(D:lV):Prop:=
 ∀(A:aC)(env:Env)(s:af)(Q:List V→Hp→Prop)(X:XA)(loc:bk)(hp:Hp)(stk:Addr→Prop),
  fA d A→env.scope=sc→EnvOk P A stk hp env loc s→HeapOk P stk hp s→D Q X loc hp→
  T P no1 stk A (spliced (backTo pos (starEach es env))) hp s (λxs hp' s'=>∃vs,Q vs hp'∧P.VRs stk hp' s'.heap vs xs) (lX Fl X)
variable{P:dH}{Fl:iq}{d:Nat}{sc:Scope}
theorem vNil{F:Addr→Prop}{h:Heap}:VRs P.nm F h [] []:=by rfl
theorem vCons{F:Addr→Prop}{h:Heap}{v:V}{vs:List V}{x:Value}{xs:List Value}(a:VR P.nm F h v x)(b:VRs P.nm F h vs xs):VRs P.nm F h (v::vs) (x::xs):=by simp only[VRse];exact⟨x,xs,rfl,a,b⟩
noncomputable def aF:lV:=λQ z z hp=>Q [] hp
noncomputable def av(e:DE)(r:lV):lV:=λQ X loc hp=>e (λv hp1=>r (λvs hp2=>Q (v::vs) hp2) X loc hp1) X loc hp
theorem SimA.nil{pos:Pos}:SimA P Fl d sc pos [] aF:=λA env s Q X loc hp stk rm hs ev ok hD=>Calls.spliced_nil ⟨hp,.refl ..,ok,[],hD,vNil⟩
theorem SimA.cons{pos:Pos}{e:Expr}{es:List Expr}{D:DE}{R:lV}(h:bU P Fl d sc e D)(hr:SimA P Fl d sc pos es R)(he:∀env,starEach (e::es) env=(false,eval e env)::starEach es env:=by exact λy=>rfl):SimA P Fl d sc pos (e::es) (av D R):=by
 intro A env s Q X loc hp stk rm hs ev ok hD
 rw[he env]
 refine Calls.spliced_cons ((h A env s _ X loc hp stk rm hs ev ok hD).thn λx hp1 s1 e1 ok1 hq=>?_)
 obtain⟨v,q1,r1⟩:=hq
 refine wpAny_mono (hr A env s1 _ X loc hp1 stk rm hs (ev.step ok e1) ok1 q1) (λxs s2 hq=>?_) λy y z=>z.back P e1
 obtain⟨hp2,e2,ok2,vs,q2,r2⟩:=hq
 exact⟨hp2,e1.trans e2,ok2,v::vs,q2,vCons (fE e2 r1) r2⟩
noncomputable def ko(hp:Hp):V→Option (List V)
 | .tup vs=>some vs
 |v=>cg hp v
theorem r9{stk:Addr→Prop}{hp:Hp}{s:af}{v:V}{x:Value}{vs:List V}(ok:HeapOk P stk hp s)(r:P.VR stk hp s.heap v x)(h:ko hp v=some vs):
 ∃a xs T n,x= .ref a∧(T= "list" ∨T= "tuple")∧s.heap.get? a=some {cls:=.type T,data:=.seq xs n}∧P.VRs stk hp s.heap vs xs.toList:=by
 cases v with
 |tup us=>cases h;obtain⟨a,xs,rfl,_,⟨n,g⟩,q⟩:=r;exact⟨a,xs,_,n,rfl,.inr rfl,g,q⟩
 |lst us=>obtain⟨a,xs,rfl,⟨n,g⟩,q⟩:=bz ok r h;exact⟨a,xs,_,n,rfl,.inl rfl,g,q⟩
 |ref b=>obtain⟨a,xs,rfl,⟨n,g⟩,q⟩:=bz ok r h;exact⟨a,xs,_,n,rfl,.inl rfl,g,q⟩
 |_=>cases h
theorem star_items{A:aC}{s:af}{hp:Hp}{stk:Addr→Prop}{v:V}{x:Value}{vs:List V}{Q:List Value→af→Prop}{E:Value→af→Prop}(ok:HeapOk P stk hp s)(r:P.VR stk hp s.heap v x)(h:ko hp v=some vs)(hl:vs.length≤lim)
 (hq:∀xs h',(∀b o,s.heap.get? b=some o→h'.get? b=some o)→P.VRs stk hp h' vs xs→Q xs {s with heap:=h'}):StarOf P.M A E x Q s:=by
 obtain⟨a,xs,T,n,rfl,hT,g,q⟩:=r9 ok r h
 have hz:xs.size≤sizeLine:=by have h1:=q.length;have h2:xs.size=xs.toList.length:=rfl
                              have:=fB;lia
 have z:wpAny P.M A (collect (.ref a)) Q E s:=wpAny_collect_seq a hT g rfl rfl (λh' k=>hq _ h' k (iQ k q)) hz
 have hT':s.TypeIs (.ref a) T:=⟨_,g,rfl⟩
 delta StarOf notIterableAtAll
 rcases hT with rfl|rfl
 ·exact wpAny_bind (wpAny_specialOf hT' PySem.F.slot_list_iter.lookup (wpAny_pure ⟨rfl,z⟩))
 ·exact wpAny_bind (wpAny_specialOf hT' PySem.F.slot_tuple_iter.lookup (wpAny_pure ⟨rfl,z⟩))
noncomputable def sR(e:DE)(r:lV):lV:=λQ X loc hp=>e (λv hp1=>∃us,ko hp1 v=some us∧us.length≤lim∧r (λvs hp2=>Q (us++vs) hp2) X loc hp1) X loc hp
theorem SimA.star{pos p:Pos}{e:Expr}{es:List Expr}{D:DE}{R:lV}(h:bU P Fl d sc e D)(hr:SimA P Fl d sc pos es R):SimA P Fl d sc pos (.Starred e p::es) (sR D R):=by
 intro A env s Q X loc hp stk rm hs ev ok hD
 refine items_star ((h A env s _ X loc hp stk rm hs ev ok hD).thn λx hp1 s1 e1 ok1 hq=>?_) rfl
 obtain⟨v,⟨us,hu,hl,q1⟩,r1⟩:=hq
 refine star_items ok1 r1 hu hl λxs h' k rx=>?_
 have e2:Ext no1 stk hp1 s1 hp1 {s1 with heap:=h'}:=Ext.grow (stk:=stk) (tk:=s1.toks) k
 have ok2:HeapOk P stk hp1 {s1 with heap:=h'}:=ok1.grow (tk:=s1.toks) k
 refine wpAny_mono (hr A env _ _ X loc hp1 stk rm hs (ev.step ok (e1.trans e2)) ok2 q1) (λys s3 hq=>?_) λy y z=>z.back P (e1.trans e2)
 obtain⟨hp3,e3,ok3,vs,q3,r3⟩:=hq
 exact⟨hp3,(e1.trans e2).trans e3,ok3,us++vs,q3,VRs.append (j5 e3 rx) r3⟩
noncomputable def mh(a:lV):DE:=λQ X loc hp=>a (λvs hp1=>vs.length≤lim∧Q (.tup vs) hp1) X loc hp
theorem Sim.tup{es:List Expr}{k:Nat}{pos:Pos}{D:lV}(h:SimA P Fl d sc pos es D):bU P Fl d sc (.Tuple es k pos) (mh D):=by
 intro A env s Q X loc hp stk rm hs ev ok hD
 refine wpAny_Tuple ((h A env s _ X loc hp stk rm hs ev ok hD).thn λxs hp1 s1 e1 ok1 hq=>?_)
 obtain⟨vs,⟨hl,q⟩,r⟩:=hq
 refine⟨?_,?_⟩
 ·have:=r.length;have:=fB;lia
 ·exact(uE (tk:=s1.toks) (xs:=xs.toArray) ok1 (by simpa using r) q).back P e1
noncomputable def jS(a:lV):DE:=λQ X loc hp=>a (λvs hp1=>vs.length≤lim∧Q (.lst vs) hp1) X loc hp
theorem Sim.lst{es:List Expr}{pos:Pos}{D:lV}(h:SimA P Fl d sc pos es D):bU P Fl d sc (.List es pos) (jS D):=by
 intro A env s Q X loc hp stk rm hs ev ok hD
 refine wpAny_List ((h A env s _ X loc hp stk rm hs ev ok hD).thn λxs hp1 s1 e1 ok1 hq=>?_)
 obtain⟨vs,⟨hl,q⟩,r⟩:=hq
 refine⟨?_,?_⟩
 ·have:=r.length;have:=fB;lia
 ·exact(j7 (tk:=s1.toks) (xs:=xs.toArray) ok1 (by simpa using r) q).back P e1
noncomputable def mi(a:lV):DE:=λQ X loc hp=>a (λvs hp1=>vs.length≤lim∧∀l,hp1 l=ae→Q (.ref l) (upd hp1 l (.lst vs))) X loc hp
theorem bW.upd{stk:Addr→Prop}{hp:Hp}{h h':Heap}{a:Addr}{o:O}(k:∀b o,h.get? b=some o→h'.get? b=some o)(hn:h.get? a=ae):bW (Fz stk hp) (Fz stk (Mine.upd hp a o)) h h':=by
 intro b ob i1_ g;refine i1_.elim λe n=>?_
 have:b≠a:=by rintro rfl;rw[hn]at g;cases g
 exact⟨⟨by rw[upd_ne this];exact e,n⟩,k b ob g⟩
theorem newTracked{own stk:Addr→Prop}{hp:Hp}{s:af}{ob:Obj}{o:O}{tk:Nat}{Q:V→Hp→Prop}(ok:HeapOk P stk hp s)(hf:ob.isFreed=false)
 (ho:OR P.nm P.prog P.w (Fz stk (upd hp s.heap.objs.size o)) (s.heap.push ob) s.heap.objs.size o)(hq:∀l,hp l=ae→Q (.ref l) (upd hp l o)):
 PostT P own stk hp s (PV P stk Q) (.ref s.heap.objs.size) {s with heap:=s.heap.push ob,toks:=tk}:=by
 have k:∀b o,s.heap.get? b=some o→(s.heap.push ob).get? b=some o:=λb o e=>an _ e
 have hn:=eV s.heap
 exact⟨_,Ext.track (stk:=stk) k hn,ok.track k hn ho,.ref _,hq _ (fz_of_new ok hn).1,sJ⟩
theorem Sim.new{es:List Expr}{pos:Pos}{D:lV}(h:SimA P Fl d sc pos es D):bU P Fl d sc (.List es pos) (mi D):=by
 intro A env s Q X loc hp stk rm hs ev ok hD
 refine wpAny_List ((h A env s _ X loc hp stk rm hs ev ok hD).thn λxs hp1 s1 e1 ok1 hq=>?_)
 obtain⟨vs,⟨hl,q⟩,r⟩:=hq
 refine⟨?_,?_⟩
 ·have:=r.length;have:=fB;lia
 ·refine(newTracked (tk:=s1.toks) (o:=.lst vs) ok1 rfl ?_ q).back P e1
  exact⟨xs.toArray,⟨0,aw _ rfl⟩,by simpa using VRs.keep (bW.upd (λb o e=>an _ e) (eV _)) r⟩
noncomputable def uZ:DE:=λQ X loc hp=>∀l,hp l=ae→∀ep,Q (.ref l) (upd hp l (.dict [] ep))
theorem Sim.dict{pos:Pos}:bU P Fl d sc (.Dict [] [] pos) uZ:=by
 intro A env s Q X loc hp stk rm hs ev ok hD
 refine wpAny_Dict_empty ?_
 obtain⟨ep,hd⟩:=(FR (knd:=intKind P.prog P.w) s.heap).dictAt
 refine newTracked (tk:=s.toks) (o:=.dict [] ep) ok rfl ?_ λl hl=>hD l hl ep
 exact⟨[],hd,rfl⟩
noncomputable abbrev DC:=List V→(V→Hp→Prop)→XA→Hp→Prop
noncomputable def OkC(P:dH)(Fl:iq)(d:Nat)(f:Value)(Dc:DC):Prop:=
 ∀(A:aC)(s:af)(Q:V→Hp→Prop)(X:XA)(hp:Hp)(stk:Addr→Prop)(vs:List V)(xs:List Value),fA d A→Fs A stk s→HeapOk P stk hp s→P.VRs stk hp s.heap vs xs→Dc vs Q X hp→
  T P no1 stk A (call f xs) hp s (PV P stk Q) (lX Fl X)
noncomputable def KeepF(P:dH)(f:Value):Prop:=∀h:Heap,(∀b o,P.H₀.get? b=some o→h.get? b=some o)→∃k,(k=By∨k=zK∨k=wW)∧GP P.M h (keeperOf f) k
theorem KeepF.builtin(id:String):KeepF P (.builtin id):=λh z=>⟨_,.inr (.inl rfl),ka rfl⟩
theorem KeepF.type(id:String):KeepF P (.type id):=λh z=>⟨_,.inr (.inl rfl),ka rfl⟩
theorem KeepF.inK{f:Value}(X:P.K.In P.H₀)(hk:keepIn P.K f=true):KeepF P f:=λh k=>keeps_K hk h (X.keeps k)
theorem kC{A:aC}{s:af}{E:Value→af→Prop}{f:Value}{first:List Value}{pos:Pos}{Q:Value→af→Prop}{R:Heap→Prop}{args:List (Bool×Sem Value)}
 (hk:∀h,R h→∃k,(k=By∨k=zK∨k=wW)∧GP P.M h (keeperOf f) k)
 (h:wpAny P.M A (evalArgs f true args []) (λa s₁=>R s₁.heap∧wpAny P.M A (call f (first++a.pos) a.kw) Q E s₁) E s):wpAny P.M A (callWith pos f first args []) Q E s:=by
 unfold callWith
 refine wpAny_bind (wpAny_holding (wpAny_mono h (λa s₁ h₁=>wpAny_bind (wpAny_standAt ?_)) λz z x=>x))
 obtain⟨k,hk',L⟩:=hk _ h₁.1
 refine wpAny_bind (L.here ?_)
 have tail:∀{t:Sem Value},wpAny P.M A t Q E s₁→wpAny P.M A (t>>= λr=>holding [r] point>>= λz=>pure r) Q E s₁:=
  λht=>wpAny_bind (wpAny_mono ht (λr s₂ hr=>wpAny_bind (wpAny_holding (wpAny_point (wpAny_pure hr)))) λz z x=>x)
 have marked (mk:Value):wpAny P.M A (callMarked mk f (first++a.pos) a.kw) Q E s₁:=by unfold callMarked;exact Calls.wpAny_keep h₁.2
 cases hst:(args.any (·.1)||([]:List (Option Str×Sem Value)).any (·.1.isNone))<;>
 rcases hk' with rfl|rfl|rfl<;>dsimp only<;>first|exact tail (marked _)|exact tail (wpAny_operating h₁.2)|exact tail h₁.2|(refine wpAny_ite ?_;split<;>first|exact tail (marked _)|exact tail h₁.2)
noncomputable def SimR(P:dH)(Fl:iq)(d:Nat)(sc:Scope)(pos:Pos)(es:List Expr)(D:lV):Prop:=
 ∀(f:Value)(A:aC)(env:Env)(s:af)(Q:List V→Hp→Prop)(X:XA)(loc:bk)(hp:Hp)(stk:Addr→Prop),
  fA d A→env.scope=sc→EnvOk P A stk hp env loc s→HeapOk P stk hp s→D Q X loc hp→
  T P no1 stk A (evalArgs f true (backTo pos (starEach es env)) []) hp s (λa hp' s'=>a.kw=[]∧∃vs,Q vs hp'∧P.VRs stk hp' s'.heap vs a.pos) (lX Fl X)
theorem SimR.nil{pos:Pos}:SimR P Fl d sc pos [] aF:=λf A env s Q X loc hp stk rm hs ev ok hD=>PySem.evalArgs_none ⟨hp,.refl ..,ok,rfl,[],hD,vNil⟩
theorem SimR.of{pos:Pos}{e:Expr}{es:List Expr}{D:lV}(h:SimA P Fl d sc pos (e::es) D)(he:∀env,starEach (e::es) env=(false,eval e env)::starEach es env:=by exact λy=>rfl):SimR P Fl d sc pos (e::es) D:=by
 intro f A env s Q X loc hp stk rm hs ev ok hD
 have z:=h A env s Q X loc hp stk rm hs ev ok hD
 rw[he env]at z⊢
 exact Calls.evalArgs_plain (wpAny_mono z (by rintro xs s1 ⟨hp1,e1,ok1,vs,q,r⟩;exact⟨hp1,e1,ok1,rfl,vs,q,r⟩) λy y z=>z)
theorem SimR.lone{pos p:Pos}{e:Expr}{D:DE}(h:bU P Fl d sc e D):SimR P Fl d sc pos [.Starred e p] (sR D aF):=by
 intro f A env s Q X loc hp stk rm hs ev ok hD
 refine ks_lone ((h A env s _ X loc hp stk rm hs ev ok hD).thn λx hp1 s1 e1 ok1 hq=>?_)
 obtain⟨v,⟨us,hu,hl,q1⟩,r1⟩:=hq
 refine star_items ok1 r1 hu hl λxs h' k rx=>?_
 have e2:Ext no1 stk hp1 s1 hp1 {s1 with heap:=h'}:=Ext.grow (stk:=stk) (tk:=s1.toks) k
 have ok2:HeapOk P stk hp1 {s1 with heap:=h'}:=ok1.grow (tk:=s1.toks) k
 exact⟨hp1,e1.trans e2,ok2,rfl,us,by simpa[aF]using q1,rx⟩
theorem callWith_sim{A:aC}{env:Env}{s:af}{loc:bk}{hp:Hp}{stk:Addr→Prop}{pos:Pos}{es:List Expr}{D:lV}{Dc:DC}{f:Value}{fv:List V}{first:List Value}{Q:V→Hp→Prop}{X:XA}
 (hr:SimR P Fl d sc pos es D)(hf:OkC P Fl d f Dc)(hk:KeepF P f)(rm:fA d A)(hs:env.scope=sc)(ev:EnvOk P A stk hp env loc s)(ok:HeapOk P stk hp s)(rf:P.VRs stk hp s.heap fv first)
 (h:D (λvs hp2=>Dc (fv++vs) Q X hp2) X loc hp):
 T P no1 stk A (callWith pos f first (backTo pos (starEach es env)) []) hp s (PV P stk Q) (lX Fl X):=by
 refine kC (R:=λh=>∀b o,P.H₀.get? b=some o→h.get? b=some o) (λh k=>hk h k) ?_
 refine(hr f A env s _ X loc hp stk rm hs ev ok h).thn λa hp1 s1 e1 ok1 hq=>?_
 refine hq.elim λhkw r1_=>r1_.elim λvs r2_=>r2_.elim λq r=>?_
 refine⟨ok1.base,?_⟩
 rw[hkw]
 exact T.nxt e1 (hf A s1 Q X hp1 stk (fv++vs) (first++a.pos) rm (ev.step ok e1).frs ok1 (VRs.append (j5 e1 rf) r) q)
noncomputable def aT(Dc:DC)(a:lV):DE:=λQ X loc hp=>a (λvs hp1=>Dc vs Q X hp1) X loc hp
theorem Sim.call{x:Str}{np pos:Pos}{es:List Expr}{D:lV}{Dc:DC}{f:Value}(hn:bU P Fl d sc (.Name x np) (aQ (.fn f)))(hr:SimR P Fl d sc pos es D)(hf:OkC P Fl d f Dc)(hk:KeepF P f):bU P Fl d sc (.Call (.Name x np) es [] pos) (aT Dc D):=by
 intro A env s Q X loc hp stk rm hs ev ok hD
 refine wpAny_Call_ofName ((hn A env s (λv hp1=>v= .fn f∧hp1=hp) X loc hp stk rm hs ev ok ⟨rfl,rfl⟩).thn λy hp1 s1 e1 ok1 hq=>?_)
 obtain⟨v,⟨hv,hh⟩,r⟩:=hq
 subst hv hh
 cases r
 exact T.nxt e1 (callWith_sim (fv:=[]) (first:=[]) hr hf hk rm hs (ev.step ok e1) ok1 vNil hD)
noncomputable def Meth(P:dH)(name:Str)(isR:Hp→V→Prop)(f:Value):Prop:=
 ∀(A:aC)(s:af)(hp:Hp)(stk:Addr→Prop)(v:V)(x:Value)(pl:Sem Bool)(Q:Value×List Value→af→Prop)(E:Value→af→Prop),HeapOk P stk hp s→P.VR stk hp s.heap v x→isR hp v→
  (∀tk,Q (f,[x]) {s with toks:=tk})→wpAny P.M A (getMethod x name pl) Q E s
noncomputable def bX(isR:Hp→V→Prop)(Dc:DC)(o:DE)(a:lV):DE:=λQ X loc hp=>o (λr hp1=>isR hp1 r∧a (λvs hp2=>Dc (r::vs) Q X hp2) X loc hp1) X loc hp
theorem callMeth{A:aC}{env:Env}{s:af}{E:Value→af→Prop}{o:Expr}{name:Str}{apos pos:Pos}{args:List Expr}{Q:Value→af→Prop}
 (hbase:attributeBase o name env (eval o env)=eval o env)
 (hfew:((backTo pos (starEach args env)).all (λx=> !x.1))=true)(hlen:args.length<29)
 (hline:(apos.endLine==pos.line)=true)
 (h:wpAny P.M A (eval o env) (λov s₁=>∀pl,wpAny P.M A (getMethod ov name pl) (λfx s₂=>wpAny P.M A (callWith pos fx.1 fx.2 (backTo pos (starEach args env)) []) Q E s₂) E s₁) E s):
 wpAny P.M A (eval (.Call (.Attribute o name apos) args [] pos) env) Q E s:=by
 rw[Gf,hbase]
 refine wpAny_bind (wpAny_mono h (λov s₁ h₁=>?_) λz z e=>e)
 refine wpAny_bind (wpAny_standAt ?_)
 have hc:methodCallForm (args.length+([]:List Keyword).length) (backTo pos (starEach args env)) (backToKw pos (keywordEach [] env))=true:=by
  show((backTo pos (starEach args env)).all (λx=> !x.1)&&true&&decide (args.length+0+0<30))=true
  rw[hfew];simp;lia
 delta methodCall calleeOf methodCallPos
 rw[hc,if_pos rfl]
 refine wpAny_bind (wpAny_holding (wpAny_mono (h₁ _) (λfx s₂ h₂=>?_) λz z e=>e))
 obtain⟨f,first⟩:=fx
 refine wpAny_bind ?_
 rw[if_pos (by rw[hline];simp)]
 exact wpAny_pure h₂
theorem Sim.meth{o:Expr}{name:Str}{apos pos:Pos}{es:List Expr}{isR:Hp→V→Prop}{f:Value}{Dc:DC}{Do:DE}{D:lV}(hm:Meth P name isR f)(ho:bU P Fl d sc o Do)(hr:SimR P Fl d sc pos es D)(hf:OkC P Fl d f Dc)(hk:KeepF P f)
 (hbase:∀env,attributeBase o name env (eval o env)=eval o env:=by exact λz=>rfl)
 (hfew:∀env,((backTo pos (starEach es env)).all (λx=> !x.1))=true:=by exact λz=>rfl)(hlen:es.length<29:=by decide+kernel)
 (hline:(apos.endLine==pos.line)=true:=by rfl):bU P Fl d sc (.Call (.Attribute o name apos) es [] pos) (bX isR Dc Do D):=by
 intro A env s Q X loc hp stk rm hs ev ok hD
 refine callMeth (hbase env) (hfew env) hlen hline ((ho A env s _ X loc hp stk rm hs ev ok hD).thn λx hp1 s1 e1 ok1 hq=>λpl=>?_)
 obtain⟨v,⟨hR,q⟩,r⟩:=hq
 refine hm A s1 hp1 stk v x pl _ _ ok1 r hR λtk=>?_
 have e2:Ext no1 stk hp1 s1 hp1 {s1 with toks:=tk}:=.toks tk
 exact T.nxt (e1.trans e2) (callWith_sim (fv:=[v]) (first:=[x]) hr hf hk rm hs (ev.step ok (e1.trans e2)) (ok1.toks tk) (vCons r vNil) q)
end Mine
namespace Mine
inductive Fw where
 |next|brk|cont
 |ret (v:V)
noncomputable abbrev XS:=Nat→bk→Hp→Prop
noncomputable abbrev DS:=(Fw→bk→Hp→Prop)→XS→bk→Hp→Prop
noncomputable def ip(env:Env):Addr→Prop:=λb=>b=env.locals∨∃n,env.cells.lookup n=some b
theorem EnvOk.own{P:dH}{A:aC}{stk:Addr→Prop}{hp:Hp}{env:Env}{loc:bk}{s:af}(ev:EnvOk P A stk hp env loc s):∀b,ip env b→stk b:=by
 rintro b (rfl|⟨n,h⟩)
 ·exact ev.stkL
 ·exact ev.stkC _ _ h
noncomputable def nu(P:dH)(env:Env)(ids:List Nat):Addr→Prop:=λb=>∃i∈ids,(env.kindOf (P.nm i)=some .local∧b=env.locals)∨(env.kindOf (P.nm i)=some .cell∧env.cells.lookup (P.nm i)=some b)
theorem ownI_E{P:dH}{env:Env}{ids:List Nat}:∀b,nu P env ids b→ip env b:=by
 rintro b ⟨i,_,⟨_,rfl⟩|⟨_,h⟩⟩
 ·exact .inl rfl
 ·exact .inr ⟨_,h⟩
theorem je{P:dH}{env:Env}{ids ids':List Nat}(h:∀i∈ids,i∈ids'):∀b,nu P env ids b→nu P env ids' b:=(by rintro b ⟨i,m,r⟩;exact⟨i,h i m,r⟩)
noncomputable def BH(P:dH)(stk:Addr→Prop)(hp:Hp)(h:Heap):Fw→Flow→Prop
 | .next,.next=>True
 | .brk,.brk=>True
 | .cont,.cont=>True
 | .ret v,.ret x=>P.VR stk hp h v x
 |_,_=>False
@[elab_as_elim] theorem BH.inv{P:dH}{stk:Addr→Prop}{hp:Hp}{h:Heap}{C:Fw→Flow→Prop}{w:Fw}{f:Flow}(r:BH P stk hp h w f)(h1:C .next .next)(h2:C .brk .brk)(h3:C .cont .cont)(h4:∀v x,P.VR stk hp h v x→C (.ret v) (.ret x)):C w f:=by
  cases w<;>cases f<;>first|exact r.elim|assumption|exact h4 _ _ r
inductive QS(P:dH)(A:aC)(stk:Addr→Prop)(env:Env)(Q:Fw→bk→Hp→Prop)(f:Flow)(hp:Hp)(s:af):Prop
 |intro (w:Fw) (loc:bk) (ev:EnvOk P A stk hp env loc s) (q:Q w loc hp) (r:BH P stk hp s.heap w f):QS P A stk env Q f hp s
inductive QX(P:dH)(Fl:iq)(A:aC)(stk:Addr→Prop)(env:Env)(X:XS)(e:Value)(hp:Hp)(s:af):Prop
 |intro (k:Nat×Hp) (loc:bk) (ev:EnvOk P A stk hp env loc s) (x:X k.1 loc k.2) (l:Fl k e hp s):QX P Fl A stk env X e hp s
inductive QG(P:dH)(A:aC)(stk:Addr→Prop)(env:Env)(Q:bk→Hp→Prop){α:Type}(x:α)(hp:Hp)(s:af):Prop
 |intro (loc:bk) (ev:EnvOk P A stk hp env loc s) (q:Q loc hp):QG P A stk env Q x hp s
noncomputable def SimS(P:dH)(Fl:iq)(d:Nat)(sc:Scope)(st:Stmt)(D:DS):Prop:=
 ∀(A:aC)(env:Env)(s:af)(Q:Fw→bk→Hp→Prop)(X:XS)(loc:bk)(hp:Hp)(stk:Addr→Prop),
  fA d A→env.scope=sc→EnvOk P A stk hp env loc s→HeapOk P stk hp s→D Q X loc hp→
  T P (ip env) stk A (exec st env) hp s (QS P A stk env Q) (QX P Fl A stk env X)
noncomputable def SimSs(P:dH)(Fl:iq)(d:Nat)(sc:Scope)(sts:List Stmt)(D:DS):Prop:=
 ∀(A:aC)(env:Env)(s:af)(Q:Fw→bk→Hp→Prop)(X:XS)(loc:bk)(hp:Hp)(stk:Addr→Prop),
  fA d A→env.scope=sc→EnvOk P A stk hp env loc s→HeapOk P stk hp s→D Q X loc hp→
  T P (ip env) stk A (execs sts env) hp s (QS P A stk env Q) (QX P Fl A stk env X)
variable{P:dH}{Fl:iq}{d:Nat}{sc:Scope}
theorem E2{A:aC}{env:Env}{s:af}{loc:bk}{hp:Hp}{stk:Addr→Prop}{e:Expr}{D:DE}{Q:V→Hp→Prop}{X:XS}{G:Value→af→Prop}(h:bU P Fl d sc e D)(rm:fA d A)(hs:env.scope=sc)(ev:EnvOk P A stk hp env loc s)(ok:HeapOk P stk hp s)
 (hD:D Q (λk hp'=>X k loc hp') loc hp)(k:∀v x hp1 s1,Ext no1 stk hp s hp1 s1→EnvOk P A stk hp1 env loc s1→HeapOk P stk hp1 s1→Q v hp1→P.VR stk hp1 s1.heap v x→G x s1):
 wpAny P.M A (eval e env) G (PostT P (ip env) stk hp s (QX P Fl A stk env X)) s:=
 wpAny_mono (h A env s Q _ loc hp stk rm hs ev ok hD) (by rintro x s1 ⟨hp1,e1,ok1,v,q,r⟩;exact k v x hp1 s1 e1 (ev.step ok e1) ok1 q r)
  (by rintro e s1 ⟨hp1,e1,ok1,kk,hx,hf⟩;exact⟨hp1,e1.of1,ok1,kk,loc,ev.step ok e1,hx,hf⟩)
theorem T2{A:aC}{env:Env}{s:af}{loc:bk}{hp:Hp}{stk:Addr→Prop}{e:Expr}{D:DT}{Q:Bool→Hp→Prop}{X:XS}{G:Bool→af→Prop}(h:SimT P Fl d sc e D)(rm:fA d A)(hs:env.scope=sc)(ev:EnvOk P A stk hp env loc s)(ok:HeapOk P stk hp s)
 (hD:D Q (λk hp'=>X k loc hp') loc hp)(k:∀b hp1 s1,Ext no1 stk hp s hp1 s1→EnvOk P A stk hp1 env loc s1→HeapOk P stk hp1 s1→Q b hp1→G b s1):
 wpAny P.M A (isTrue e env (eval e env)) G (PostT P (ip env) stk hp s (QX P Fl A stk env X)) s:=
 wpAny_mono (h A env s Q _ loc hp stk rm hs ev ok hD) (by rintro x s1 ⟨hp1,e1,ok1,q⟩;exact k x hp1 s1 e1 (ev.step ok e1) ok1 q)
  (by rintro e s1 ⟨hp1,e1,ok1,kk,hx,hf⟩;exact⟨hp1,e1.of1,ok1,kk,loc,ev.step ok e1,hx,hf⟩)
theorem storeVar(inj:∀i j,P.nm i=P.nm j→i=j){A:aC}{env:Env}{s:af}{loc:bk}{hp:Hp}{stk:Addr→Prop}{i:Nat}{v:V}{x:Value}{G:Unit→af→Prop}{E:Value→af→Prop}
 (hk:(match env.scope.names.lookup (P.nm i)with|some .local=>true|some .cell=>true|_=>false)=true)(ev:EnvOk P A stk hp env loc s)(ok:HeapOk P stk hp s)(r:P.VR stk hp s.heap v x)
 (k:∀s',Ext (nu P env [i]) stk hp s hp s'→EnvOk P A stk hp env (upd loc i v) s'→HeapOk P stk hp s'→G () s'):wpAny P.M A (storeName env (P.nm i) x) G E s:=by
 have hn:∀a,stk a→hp a=ae:=λa z=>by
  cases q:hp a with
  |none=>rfl
  |some o=>exact absurd z (ok.apart a (by rw[q];intro z;cases z))
 have main:∀(c:Addr)(h':Heap)(tk:Nat),nu P env [i] c→bP c s.heap h'→(∃o,h'.get? c=some o)→(∀o,s.heap.get? c=some o→ow o→∃o',h'.get? c=some o'∧ow o')→Ext (nu P env [i]) stk hp s hp {s with heap:=h',toks:=tk}∧HeapOk P stk hp {s with heap:=h',toks:=tk}∧bW (Fz stk hp) (Fz stk hp) s.heap h':=by
  intro c h' tk hc hs ht hdd
  have hsc:=ev.own c (ownI_E c hc)
  have ky:bW (Fz stk hp) (Fz stk hp) s.heap h':=by
   rintro a o f g
   have:a≠c:=by rintro rfl;exact f.2 hsc
   exact⟨f,(hs.2 a this).trans g⟩
  refine⟨.exact (λb o e n g=>?_) (λb o g=>?_) (λb o st g d=>?_) (λw a b=>absurd a b) rfl rfl,⟨λa o e=>(ok.obj a o e).keep ky λo g=>?_,ok.apart,λb o e=>?_,ok.new,ok.stkn,λa z=>?_,ok.gens⟩,ky⟩
  ·have:b≠c:=by rintro rfl;exact n hc
   exact(hs.2 b this).trans g
  ·by_cases q:b=c
   ·subst q;exact ht
   ·exact⟨o,(hs.2 b q).trans g⟩
  ·by_cases q:b=c
   ·subst q;exact hdd o g d
   ·exact⟨o,(hs.2 b q).trans g,d⟩
  ·have:a≠c:=by rintro rfl;rw[hn _ hsc]at e;cases e
   exact(hs.2 a this).trans g
  ·have:b≠c:=by rintro rfl;rw[ok.stkn _ hsc]at e;cases e
   exact(hs.2 b this).trans (ok.base b o e)
  ·by_cases q:a=c
   ·subst q;exact ht
   ·obtain⟨o,e⟩:=ok.stkl a z;exact⟨o,(hs.2 a q).trans e⟩
 have hkind:env.kindOf (P.nm i)=env.scope.names.lookup (P.nm i):=rfl
 rw[←hkind]at hk
 cases q:env.kindOf (P.nm i)with
 |none=>rw[q]at hk;cases hk
 |some kd=>
  rw[q]at hk
  obtain⟨m,n,hm⟩:=ev.ns
  cases kd with
  |«local»=>
   refine wpAny_storeName_local q n (λh' hn' hs'=>?_) (by rw[ev.kind];rfl)
   obtain⟨e,ok',ky⟩:=main env.locals h' (s.toks+1) ⟨i,ak,.inl ⟨q,rfl⟩⟩ hs' (by obtain⟨o,_,_,g,_⟩:=hn';exact⟨o,g⟩) (λw w w=>(by obtain⟨o,es,ep,g,d,_⟩:=hn';exact⟨o,g,es,ep,d⟩))
   refine k _ e ⟨ev.kind,ev.glob,ev.blt,⟨_,hn',λj u hj hl=>?_⟩,λj u hj hl=>?_,ev.stkL,ev.stkC,λnn kk=>?_,ev.apart,ev.apartL,ev.frs.step e,ev.top⟩ ok'
   ·by_cases ji:j=i
    ·subst ji;rw[upd_same]at hj;cases hj;exact⟨x,by simp,r.keep ky⟩
    ·rw[upd_ne ji]at hj
     obtain⟨y,p,ry⟩:=hm j u hj hl
     exact⟨y,by rw[if_neg (λz=>ji (inj _ _ z))];exact p,ry.keep ky⟩
   ·have ji:j≠i:=by rintro rfl;rw[q]at hl;rcases hl with z|z<;>cases z
    rw[upd_ne ji]at hj
    refine(ev.cell j u hj hl).elim λc r1_=>r1_.elim λy r2_=>r2_.elim λp r3_=>r3_.elim λg ry=>?_
    exact⟨c,y,p,g.sameBut hs' (λz=>ev.apartL _ (z▸p)),ry.keep ky⟩
   ·refine(ev.cells nn kk).elim λc r1_=>r1_.elim λy r2_=>r2_.elim λp g=>?_
    exact⟨c,y,p,g.sameBut hs' (λz=>ev.apartL _ (z▸p))⟩
  |cell=>
   obtain⟨c,y,p,g⟩:=ev.cells _ (.inl q)
   refine wpAny_storeName_cell ev.kind q p g λh' hc' hs'=>?_
   have hLc:env.locals≠c:=λz=>ev.apartL _ (z▸p)
   obtain⟨e,ok',ky⟩:=main c h' s.toks ⟨i,ak,.inr ⟨q,p⟩⟩ hs' (by obtain⟨o,g,_⟩:=hc';exact⟨o,g⟩) (λo g' d'=>by obtain⟨o2,g2,r2⟩:=g;rw[g']at g2;cases g2;exact absurd d' (isD_cell r2))
   refine k _ e ⟨ev.kind,ev.glob,ev.blt,⟨m,n.sameBut hs' hLc,λj u hj hl=>?_⟩,λj u hj hl=>?_,ev.stkL,ev.stkC,λnn kk=>?_,ev.apart,ev.apartL,ev.frs.step e,ev.top⟩ ok'
   ·have ji:j≠i:=by rintro rfl;rw[q]at hl;cases hl
    rw[upd_ne ji]at hj
    refine(hm j u hj hl).elim λy r1_=>r1_.elim λp ry=>?_
    exact⟨y,p,ry.keep ky⟩
   ·by_cases ji:j=i
    ·subst ji;rw[upd_same]at hj;cases hj;exact⟨c,x,p,hc',r.keep ky⟩
    ·rw[upd_ne ji]at hj
     refine(ev.cell j u hj hl).elim λc2 r1_=>r1_.elim λy2 r2_=>r2_.elim λp2 r3_=>r3_.elim λg2 ry=>?_
     exact⟨c2,y2,p2,g2.sameBut hs' (λz=>ji (inj _ _ (ev.apart _ _ _ p2 (z▸p)))),ry.keep ky⟩
   ·refine(ev.cells nn kk).elim λc2 r1_=>r1_.elim λy2 r2_=>r2_.elim λp2 g2=>?_
    by_cases cc:c2=c
    ·subst cc;exact⟨c2,_,p2,hc'⟩
    ·exact⟨c2,y2,p2,g2.sameBut hs' cc⟩
  |_=>cases hk
noncomputable abbrev DA:=V→(bk→Hp→Prop)→XS→bk→Hp→Prop
noncomputable def SimG(P:dH)(Fl:iq)(d:Nat)(sc:Scope)(t:Expr)(ids:List Nat)(D:DA):Prop:=
 ∀(A:aC)(env:Env)(s:af)(Q:bk→Hp→Prop)(X:XS)(loc:bk)(hp:Hp)(stk:Addr→Prop)(v:V)(x:Value),
  fA d A→env.scope=sc→EnvOk P A stk hp env loc s→HeapOk P stk hp s→P.VR stk hp s.heap v x→D v Q X loc hp→
  T P (nu P env ids) stk A (assign t env x) hp s (QG P A stk env Q) (QX P Fl A stk env X)
noncomputable def aG(i:Nat):DA:=λv Q X loc hp=>Q (upd loc i v) hp
theorem SimG.var(inj:∀i j,P.nm i=P.nm j→i=j){i:Nat}{x:Str}{pos:Pos}(hx:P.nm i=x)(hk:(match sc.names.lookup x with|some .local=>true|some .cell=>true|_=>false)=true):SimG P Fl d sc (.Name x pos) [i] (aG i):=by
 subst hx
 intro A env s Q X loc hp stk v x rm hs ev ok r hD
 refine wpAny_assign_Name (storeVar inj (by rw[hs];exact hk) ev ok r λs' e ev' ok'=>⟨hp,e,ok',_,ev',hD⟩)
theorem SimG.wide{t:Expr}{it:List Nat}{D:DA}(h:SimG P Fl d sc t it D){A:aC}{env:Env}{s:af}{Q:bk→Hp→Prop}{X:XS}{loc:bk}{hp:Hp}{stk:Addr→Prop}{v:V}{x:Value}
 (rm:fA d A)(hs:env.scope=sc)(ev:EnvOk P A stk hp env loc s)(ok:HeapOk P stk hp s)(r:P.VR stk hp s.heap v x)(hD:D v Q X loc hp):
 T P (ip env) stk A (assign t env x) hp s (QG P A stk env Q) (QX P Fl A stk env X):=
 wpAny_mono (h A env s Q X loc hp stk v x rm hs ev ok r hD) (by rintro _ _ ⟨hp',e,z,z'⟩;exact⟨hp',e.wider ownI_E,z,z'⟩) (by rintro _ _ ⟨hp',e,z,z'⟩;exact⟨hp',e.wider ownI_E,z,z'⟩)
theorem lw{A:aC}{stk:Addr→Prop}{hp hp':Hp}{env:Env}{loc:bk}{s₀ s s':af}{hp₀:Hp}{v:V}{x:Value}(ev:EnvOk P A stk hp₀ env loc s₀)(e:Ext (ip env) stk hp s hp' s')(h:P.VR stk hp s.heap v x):P.VR stk hp' s'.heap v x:=VR.keep (e.keepy ev.own) h
noncomputable def bB(e:DE)(t:DA):DS:=λQ X loc hp=>e (λv hp1=>t v (λloc' hp2=>Q .next loc' hp2) X loc hp1) (λk hp'=>X k loc hp') loc hp
theorem SimS.asgName{i:Nat}{x:Str}{pos pos':Pos}{e:Expr}{D:DE}(inj:∀i j,P.nm i=P.nm j→i=j)(hx:P.nm i=x)(hk:(match sc.names.lookup x with|some .local=>true|some .cell=>true|_=>false)=true)
 (h:bU P Fl d sc e D)(hs':∀env:Env,env.scope=sc→swapsWith e (some (.Name x pos')) pos.line env=pure false):SimS P Fl d sc (.Assign [.Name x pos'] e pos) (bB D (aG i)):=by
 subst hx
 intro A env s Q X loc hp stk rm hs ev ok hD
 refine wpAny_Assign_Name (E2 h rm hs ev ok hD λv x hp1 s1 e1 ev1 ok1 q r=>?_) (hs' env hs)
 exact storeVar inj (by rw[hs];exact hk) ev1 ok1 r λs' e ev' ok'=>⟨hp1,e1.of1.trans (e.wider ownI_E),ok',.next,_,ev',q,trivial⟩
theorem SimS.asg{t e:Expr}{pos:Pos}{D:DE}{Dt:DA}{it:List Nat}(h:bU P Fl d sc e D)(ht:SimG P Fl d sc t it Dt)
 (he:∀env,(assignEach [t] env).map (·.2)=[assign t env]:=by exact λy=>rfl)(hs':∀env,swapsWithSole [t] e pos.line env=pure false:=by exact λy=>rfl)(hw:∀env,swappedStores [t] e env=pure ae:=by exact λy=>rfl):SimS P Fl d sc (.Assign [t] e pos) (bB D Dt):=by
 intro A env s Q X loc hp stk rm hs ev ok hD
 refine wpAny_Assign_stores (E2 h rm hs ev ok hD λv x hp1 s1 e1 ev1 ok1 q r=>?_) (hs' env) (hw env)
 rw[he env]
 refine wpAny_mono (ht.wide rm hs ev1 ok1 r q) (λy s2 hq=>?_) λy y z=>z.back P e1.of1
 obtain⟨hp2,e2,ok2,loc2,ev2,q2⟩:=hq
 exact⟨hp2,e1.of1.trans e2,ok2,.next,loc2,ev2,q2,trivial⟩
noncomputable def xz(e:DE)(t u:DA):DS:=λQ X loc hp=>e (λv hp1=>t v (λloc2 hp2=>u v (λloc3 hp3=>Q .next loc3 hp3) X loc2 hp2) X loc hp1) (λk hp'=>X k loc hp') loc hp
theorem SimS.asg2{t u e:Expr}{pos:Pos}{D:DE}{Dt Du:DA}{it iu:List Nat}(h:bU P Fl d sc e D)(ht:SimG P Fl d sc t it Dt)(hu:SimG P Fl d sc u iu Du)
 (he:∀env,(assignEach [t,u] env).map (·.2)=[assign t env,assign u env])(hw:∀env,swappedStores [t,u] e env=pure ae):SimS P Fl d sc (.Assign [t,u] e pos) (xz D Dt Du):=by
 intro A env s Q X loc hp stk rm hs ev ok hD
 refine wpAny_Assign_two (E2 h rm hs ev ok hD λv x hp1 s1 e1 ev1 ok1 q r=>?_) (he env) (hw env)
 refine wpAny_mono (ht.wide rm hs ev1 ok1 r q) (λy s2 hq=>?_) λy y z=>z.back P e1.of1
 obtain⟨hp2,e2,ok2,loc2,ev2,q2⟩:=hq
 refine wpAny_mono (hu.wide rm hs ev2 ok2 (lw ev1 e2 r) q2) (λy s3 hq=>?_) λy y z=>z.back P (e1.of1.trans e2)
 obtain⟨hp3,e3,ok3,loc3,ev3,q3⟩:=hq
 exact⟨hp3,(e1.of1.trans e2).trans e3,ok3,.next,loc3,ev3,q3,trivial⟩
noncomputable def xx(e:DE)(t u w:DA):DS:=λQ X loc hp=>e (λv hp1=>t v (λloc2 hp2=>u v (λloc3 hp3=>w v (λloc4 hp4=>Q .next loc4 hp4) X loc3 hp3) X loc2 hp2) X loc hp1) (λk hp'=>X k loc hp') loc hp
theorem SimS.asg3{t u w e:Expr}{pos:Pos}{D:DE}{Dt Du Dw:DA}{it iu iw:List Nat}(h:bU P Fl d sc e D)(ht:SimG P Fl d sc t it Dt)(hu:SimG P Fl d sc u iu Du)(hw3:SimG P Fl d sc w iw Dw)
 (he:∀env,(assignEach [t,u,w] env).map (·.2)=[assign t env,assign u env,assign w env])(hw:∀env,swappedStores [t,u,w] e env=pure ae):SimS P Fl d sc (.Assign [t,u,w] e pos) (xx D Dt Du Dw):=by
 intro A env s Q X loc hp stk rm hs ev ok hD
 refine wpAny_Assign_three (E2 h rm hs ev ok hD λv x hp1 s1 e1 ev1 ok1 q r=>?_) (he env) (hw env)
 refine wpAny_mono (ht.wide rm hs ev1 ok1 r q) (λy s2 hq=>?_) λy y z=>z.back P e1.of1
 obtain⟨hp2,e2,ok2,loc2,ev2,q2⟩:=hq
 refine wpAny_mono (hu.wide rm hs ev2 ok2 (lw ev1 e2 r) q2) (λy s3 hq=>?_) λy y z=>z.back P (e1.of1.trans e2)
 obtain⟨hp3,e3,ok3,loc3,ev3,q3⟩:=hq
 refine wpAny_mono (hw3.wide rm hs ev3 ok3 (lw ev1 (e2.trans e3) r) q3) (λy s4 hq=>?_) λy y z=>z.back P ((e1.of1.trans e2).trans e3)
 obtain⟨hp4,e4,ok4,loc4,ev4,q4⟩:=hq
 exact⟨hp4,((e1.of1.trans e2).trans e3).trans e4,ok4,.next,loc4,ev4,q4,trivial⟩
noncomputable def gH(e:DE):DS:=λQ X loc hp=>e (λv hp1=>Q (.ret v) loc hp1) (λk hp'=>X k loc hp') loc hp
theorem SimS.ret{e:Expr}{pos:Pos}{D:DE}(h:bU P Fl d sc e D):SimS P Fl d sc (.Return (some e) pos) (gH D):=λA env s Q X loc hp stk rm hs ev ok hD=>
 wpAny_Return_some (E2 h rm hs ev ok hD λv x hp1 s1 e1 ev1 ok1 q r=>⟨hp1,e1.of1,ok1,.ret v,loc,ev1,q,r⟩)
noncomputable def jk(e:DE):DS:=λQ X loc hp=>e (λv hp1=>Q .next loc hp1) (λk hp'=>X k loc hp') loc hp
theorem SimS.exp{e:Expr}{pos:Pos}{D:DE}(h:bU P Fl d sc e D)(hi:∀env,swapsWith e ae pos.line env=pure false:=by exact λz=>rfl):SimS P Fl d sc (.Expr e pos) (jk D):=λA env s Q X loc hp stk rm hs ev ok hD=>
 wpAny_Expr_any (E2 h rm hs ev ok hD λv x hp1 s1 e1 ev1 ok1 q r=>⟨hp1,e1.of1,ok1,.next,loc,ev1,q,trivial⟩) (by unfold interactive;rw[ev.kind];rfl) (hi env)
noncomputable def aH:DS:=λQ X loc hp=>Q .next loc hp
noncomputable def sK:DS:=λQ X loc hp=>Q .brk loc hp
noncomputable def xw:DS:=λQ X loc hp=>Q .cont loc hp
theorem SimS.brk{pos:Pos}:SimS P Fl d sc (.Break pos) sK:=λA env s Q X loc hp stk rm hs ev ok hD=>wpAny_Break ⟨hp,.refl ..,ok,.brk,loc,ev,hD,trivial⟩
theorem SimS.cont{pos:Pos}:SimS P Fl d sc (.Continue pos) xw:=λA env s Q X loc hp stk rm hs ev ok hD=>wpAny_Continue ⟨hp,.refl ..,ok,.cont,loc,ev,hD,trivial⟩
theorem SimSs.nil:SimSs P Fl d sc [] aH:=λA env s Q X loc hp stk rm hs ev ok hD=>tH ⟨hp,.refl ..,ok,.next,loc,ev,hD,trivial⟩
noncomputable def aA(a b:DS):DS:=λQ X loc hp=>a (λw loc1 hp1=>match w with| .next=>b Q X loc1 hp1|w=>Q w loc1 hp1) X loc hp
theorem SimSs.cons{st:Stmt}{sts:List Stmt}{a b:DS}(h:SimS P Fl d sc st a)(hr:SimSs P Fl d sc sts b):SimSs P Fl d sc (st::sts) (aA a b):=by
 intro A env s Q X loc hp stk rm hs ev ok hD
 refine wpAny_execs_cons ((h A env s _ X loc hp stk rm hs ev ok hD).thn λf hp1 s1 e1 ok1 hq=>?_)
 obtain⟨w,loc1,ev1,q1,r1⟩:=hq
 revert q1
 refine BH.inv r1 (λq1=>?_) (λq1=>?_) (λq1=>?_) (λv x r q1=>?_)
 ·exact T.nxt e1 (hr A env s1 Q X loc1 hp1 stk rm hs ev1 ok1 q1)
 ·exact⟨hp1,e1,ok1,.brk,loc1,ev1,q1,trivial⟩
 ·exact⟨hp1,e1,ok1,.cont,loc1,ev1,q1,trivial⟩
 ·exact⟨hp1,e1,ok1,.ret _,loc1,ev1,q1,r⟩
noncomputable def kg(t:DT)(a b:DS):DS:=λQ X loc hp=>t (λc hp1=>if c then a Q X loc hp1 else b Q X loc hp1) (λk hp'=>X k loc hp') loc hp
theorem SimS.iff{t:Expr}{xs ys:List Stmt}{pos:Pos}{dt:DT}{a b:DS}(ht:SimT P Fl d sc t dt)(ha:SimSs P Fl d sc xs a)(hb:SimSs P Fl d sc ys b):SimS P Fl d sc (.If t xs ys pos) (kg dt a b):=by
 intro A env s Q X loc hp stk rm hs ev ok hD
 refine wpAny_If (T2 ht rm hs ev ok hD λc hp1 s1 e1 ev1 ok1 q=>?_)
 cases c with
 |true=>exact T.nxt e1.of1 (ha A env s1 Q X loc hp1 stk rm hs ev1 ok1 q)
 |false=>exact T.nxt e1.of1 (hb A env s1 Q X loc hp1 stk rm hs ev1 ok1 q)
end Mine
namespace Mine
variable{A:aC}{P:dH}{Fl:iq}{d:Nat}{sc:Scope}
noncomputable def cq(stk:Addr→Prop)(J:Addr→Prop):Addr→Prop:=λa=>stk a∨J a
noncomputable abbrev one(I:Addr):Addr→Prop:=λa=>a=I
structure Wen(hp hpL:Hp)(h:Heap)(J Jo:Addr→Prop):Prop where
 new:∀a,J a→h.get? a=ae∨(hp a≠ae∧Jo a)
 off:∀a,J a→hpL a=ae
 on:∀a,¬J a→hpL a=hp a
theorem Wen.one{stk:Addr→Prop}{hp:Hp}{s:af}(ok:HeapOk P stk hp s){I:Addr}(hn:s.heap.get? I=ae):Wen hp hp s.heap (one I) (λy=>False):=
 ⟨λy z=>.inl (z▸hn),λy z=>z▸(fz_of_new ok hn).1,λy y=>rfl⟩
theorem Wen.not{hp hpL:Hp}{h:Heap}{J Jo:Addr→Prop}(N:Wen hp hpL h J Jo){a:Addr}(e:hp a=ae){o:Obj}(g:h.get? a=some o):¬J a:=λz=>by
 rcases N.new a z with q|q
 ·rw[g]at q;cases q
 ·exact q.1 e
theorem Wen.up{hp hpL:Hp}{h:Heap}{J Jo:Addr→Prop}(N:Wen hp hpL h J Jo){a:Addr}(e:hp a=ae):hpL a=ae:=by
 by_cases z:J a
 ·exact N.off a z
 ·exact(N.on a z).trans e
theorem Wen.hp{hp hpL:Hp}{h:Heap}{J Jo:Addr→Prop}(N:Wen hp hpL h J Jo){a:Addr}{o:O}(e:hpL a=some o):hp a=some o:=by
 by_cases z:J a
 ·rw[N.off a z]at e;cases e
 ·exact(N.on a z).symm.trans e
theorem Wen.notStk{stk:Addr→Prop}{hp hpL:Hp}{s:af}{J Jo:Addr→Prop}(N:Wen hp hpL s.heap J Jo)(ok:HeapOk P stk hp s){a:Addr}(z:J a):¬stk a:=λq=>by
 rcases N.new a z with h|h
 ·obtain⟨o,g⟩:=ok.stkl a q;rw[h]at g;cases g
 ·exact ok.apart a h.1 q
theorem fzPlus{stk:Addr→Prop}{hp hpL:Hp}{h h':Heap}{J Jo:Addr→Prop}(N:Wen hp hpL h J Jo)(k:∀b o,h.get? b=some o→h'.get? b=some o):bW (Fz stk hp) (Fz (cq stk J) hpL) h h':=by
 intro a o i1_ g;refine i1_.elim λe n=>?_
 refine⟨⟨N.up e,?_⟩,k a o g⟩
 rintro(z|z)
 ·exact n z
 ·exact N.not e g z
theorem fzMinus{stk:Addr→Prop}{hp:Hp}{h:Heap}{J:Addr→Prop}:bW (Fz (cq stk J) hp) (Fz stk hp) h h:=λa o f g=>⟨⟨f.1,λz=>f.2 (.inl z)⟩,g⟩
theorem t7{stk:Addr→Prop}{hp hpL:Hp}{s:af}(ok:HeapOk P stk hp s){h':Heap}{tk:Nat}{J Jo:Addr→Prop}(N:Wen hp hpL s.heap J Jo)(k:∀b o,s.heap.get? b=some o→h'.get? b=some o)(hI:∀a,J a→∃o,h'.get? a=some o):HeapOk P (cq stk J) hpL {s with heap:=h',toks:=tk}:=by
 refine⟨λa o e=>(ok.obj a o (N.hp e)).keep (fzPlus N k) (λo g=>k a o g),λa e=>?_,λb o e=>k b o (ok.base b o e),λa e=>?_,λa z=>?_,λa z=>?_,ok.gens⟩
 ·rintro(z|z)
  ·exact ok.apart a (λq=>e (N.up q)) z
  ·exact e (N.off a z)
 ·exact ok.new a (λq=>e (N.up q))
 ·rcases z with z|z
  ·exact ok.stkn a z
  ·rcases N.new a z with q|q
   ·cases g:P.H₀.get? a with
    |none=>rfl
    |some o=>have:=ok.base a o g;rw[q]at this;cases this
   ·exact ok.new a q.1
 ·rcases z with z|z
  ·refine(ok.stkl a z).elim λo e=>?_;exact⟨o,k a o e⟩
  ·exact hI a z
theorem va{stk:Addr→Prop}{hp:Hp}{s:af}{J:Addr→Prop}(ok:HeapOk P (cq stk J) hp s):HeapOk P stk hp s:=
 ⟨λa o e=>(ok.obj a o e).keep fzMinus (λo g=>g),λa e z=>ok.apart a e (.inl z),ok.base,ok.new,λa z=>ok.stkn a (.inl z),λa z=>ok.stkl a (.inl z),ok.gens⟩
theorem ub{stk:Addr→Prop}{hp hpL:Hp}{env:Env}{loc:bk}{s:af}(ev:EnvOk P A stk hp env loc s){h':Heap}{tk:Nat}{J Jo:Addr→Prop}(N:Wen hp hpL s.heap J Jo)(k:∀b o,s.heap.get? b=some o→h'.get? b=some o):EnvOk P A (cq stk J) hpL env loc {s with heap:=h',toks:=tk}:=by
 have ky:=fzPlus (stk:=stk) N k
 refine⟨ev.kind,ev.glob,ev.blt,?_,λi v h kk=>?_,.inl ev.stkL,λn c h=>.inl (ev.stkC n c h),λn kk=>?_,ev.apart,ev.apartL,ev.frs.up (λa z=>.inl z) λb o x g d=>⟨o,k b o g,d⟩,ev.top⟩
 ·obtain⟨m,n,h⟩:=ev.ns
  exact⟨m,n.keeps k,λi v a b=>(by obtain⟨y,p,q⟩:=h i v a b;exact⟨y,p,q.keep ky⟩)⟩
 ·refine(ev.cell i v h kk).elim λc r1_=>r1_.elim λy r2_=>r2_.elim λp r3_=>r3_.elim λg q=>?_
  exact⟨c,y,p,g.keeps k,q.keep ky⟩
 ·refine(ev.cells n kk).elim λc r1_=>r1_.elim λy r2_=>r2_.elim λp g=>?_
  exact⟨c,y,p,g.keeps k⟩
theorem AK{stk:Addr→Prop}{hp:Hp}{env:Env}{loc:bk}{s:af}{J:Addr→Prop}(ev:EnvOk P A (cq stk J) hp env loc s)(hL:stk env.locals)(hC:∀n c,env.cells.lookup n=some c→stk c)(hF:Fs A stk s):EnvOk P A stk hp env loc s:=by
 refine⟨ev.kind,ev.glob,ev.blt,?_,λi v h kk=>?_,hL,hC,ev.cells,ev.apart,ev.apartL,hF,ev.top⟩
 ·obtain⟨m,n,h⟩:=ev.ns
  exact⟨m,n,λi v a b=>(by obtain⟨y,p,q⟩:=h i v a b;exact⟨y,p,q.keep fzMinus⟩)⟩
 ·refine(ev.cell i v h kk).elim λc r1_=>r1_.elim λy r2_=>r2_.elim λp r3_=>r3_.elim λg q=>?_
  exact⟨c,y,p,g,q.keep fzMinus⟩
theorem tA{own stk:Addr→Prop}{hp hpL hp':Hp}{s s1 s':af}{J Jo:Addr→Prop}(e1:Ext own stk hp s hp s1)(N:Wen hp hpL s.heap J Jo)(e:Ext (cq own J) (cq stk J) hpL s1 hp' s'):Ext own stk hp s hp' s':=by
 refine⟨λb o h n g=>?_,λb o g=>?_,λb o st g d=>?_,λb h n=>?_,e.drawn.trans e1.drawn,e.os.trans e1.os⟩
 ·have ne:¬J b:=N.not h g
  have st:cq stk J b→stk b:=λz=>z.elim id λq=>absurd q ne
  rcases e1.keep b o h n g with g1|⟨a,d,sl,g1⟩
  ·rcases e.keep b o (N.up h) (λz=>z.elim n ne) g1 with g2|⟨a,d,sl,g2⟩
   ·exact .inl g2
   ·exact .inr ⟨st a,d,sl,g2⟩
  ·rcases e.keep b _ (N.up h) (λz=>z.elim n ne) g1 with g2|⟨_,_,sl2,g2⟩
   ·exact .inr ⟨a,d,sl,g2⟩
   ·exact .inr ⟨a,d,sl2,g2⟩
 ·refine(e1.there b o g).elim λo' g'=>?_;exact e.there b o' g'
 ·refine(e1.dic b o st g d).elim λo' r1_=>r1_.elim λg' d'=>?_
  exact e.dic b o' (.inl st) g' d'
 ·have:=e.fresh b (N.up h) n
  cases g:s.heap.get? b with
  |none=>rfl
  |some o=>obtain⟨o',g'⟩:=e1.there b o g;rw[this]at g';cases g'
theorem leaveI{own stk:Addr→Prop}{hp hpL hp2:Hp}{env:Env}{loc:bk}{s s1 s2:af}{J Jo:Addr→Prop}{h':Heap}{tk:Nat}(e1:Ext own stk hp s hp s1)(N:Wen hp hpL s.heap J Jo)(e:Ext (cq own J) (cq stk J) hpL s1 hp2 s2)(hI:∀a,J a→¬stk a)(ok:HeapOk P (cq stk J) hp2 s2)(al:∀a,Jo a→∃o,h'.get? a=some o)
 (k:∀b o,¬J b→s2.heap.get? b=some o→h'.get? b=some o):Ext own stk hp s hp2 {s2 with heap:=h',toks:=tk}∧HeapOk P stk hp2 {s2 with heap:=h',toks:=tk}∧(stk env.locals→(∀n c,env.cells.lookup n=some c→stk c)→Fs A stk s→EnvOk P A (cq stk J) hp2 env loc s2→EnvOk P A stk hp2 env loc {s2 with heap:=h',toks:=tk}):=by
 have ne:∀a,stk a→¬J a:=λa z q=>hI a q z
 have ky:bW (Fz (cq stk J) hp2) (Fz stk hp2) s2.heap h':=λa o f g=>⟨⟨f.1,λz=>f.2 (.inl z)⟩,k a o (λq=>f.2 (.inr q)) g⟩
 have em:=tA e1 N e
 have ex:Ext own stk hp s hp2 {s2 with heap:=h',toks:=tk}:=by
  refine⟨λb o h n g=>?_,λb o g=>?_,λb o st g d=>?_,em.fresh,em.drawn,em.os⟩
  ·have nj:¬J b:=N.not h g
   rcases em.keep b o h n g with g1|⟨a,d,sl,g1⟩
   ·exact .inl (k b o nj g1)
   ·exact .inr ⟨a,d,sl,k b _ nj g1⟩
  ·by_cases q:J b
   ·rcases N.new b q with z|z
    ·rw[g]at z;cases z
    ·exact al b z.2
   ·obtain⟨o',g'⟩:=em.there b o g
    exact⟨o',k b o' q g'⟩
  ·refine(em.dic b o st g d).elim λo' r1_=>r1_.elim λg' d'=>?_
   exact⟨o',k b o' (ne b st) g',d'⟩
 refine⟨ex,⟨λa o h=>(ok.obj a o h).keep ky λo g=>k a o ?_ g,λa h z=>ok.apart a h (.inl z),λb o h=>k b o ?_ (ok.base b o h),ok.new,λa z=>ok.stkn a (.inl z),λa z=>?_,ok.gens⟩,λhL hC hF ev=>?_⟩
 ·intro q;exact ok.apart a (by rw[h];intro z;cases z) (.inr q)
 ·intro q;rw[ok.stkn b (.inr q)]at h;cases h
 ·refine(ok.stkl a (.inl z)).elim λo g=>?_;exact⟨o,k a o (ne a z) g⟩
 ·refine⟨ev.kind,ev.glob,ev.blt,?_,λi v h kk=>?_,hL,hC,λn kk=>?_,ev.apart,ev.apartL,hF.step ex,ev.top⟩
  ·obtain⟨m,⟨o,es,ep,g,r⟩,h⟩:=ev.ns
   exact⟨m,⟨o,es,ep,k _ _ (ne _ hL) g,r⟩,λi v a b=>(by obtain⟨y,p,q⟩:=h i v a b;exact⟨y,p,q.keep ky⟩)⟩
  ·refine(ev.cell i v h kk).elim λc r1_=>r1_.elim λy r2_=>r2_.elim λp r3_=>r3_.elim λe4_ q=>e4_.elim λo r5_=>r5_.elim λg r=>?_
   exact⟨c,y,p,⟨o,k _ _ (ne _ (hC _ _ p)) g,r⟩,q.keep ky⟩
  ·refine(ev.cells n kk).elim λc r1_=>r1_.elim λy r2_=>r2_.elim λp e3_=>e3_.elim λo r4_=>r4_.elim λg r=>?_
   exact⟨c,y,p,⟨o,k _ _ (ne _ (hC _ _ p)) g,r⟩⟩
structure CM(P:dH)(G:Expr→Prop)(R:(Addr→Prop)→Heap→Prop)(I:Addr)(J Jo:Addr→Prop)(vs:List V)(src:Hp→Prop)(St:Nat→Heap→Prop):Prop where
 item:∀(A:aC)(target:Expr)(i:Nat)(s:af)(hp:Hp)(stk:Addr→Prop)(Q:Value→af→Prop)(E:Value→af→Prop)(hi:i<vs.length),G target→A.handled=none→St i s.heap→HeapOk P stk hp s→R (Fz stk hp) s.heap→src hp→(∀a,J a→stk a)→
  (∀y h' tk,P.VR stk hp h' vs[i] y→St (i+1) h'→(∀b o,¬J b→s.heap.get? b=some o→h'.get? b=some o)→Q y {s with heap:=h',toks:=tk})→
  wpAny P.M A (pyNext (.ref I)) (λr s1=>∃y,r=some y∧wpAny P.M A (letOwnedTupleGo target (.ref I) y) (λz s2=>Q y s2) E s1) E s
 done:∀(A:aC)(s:af)(hp:Hp)(stk:Addr→Prop)(Q:af→Prop)(E:Value→af→Prop),A.handled=none→St vs.length s.heap→HeapOk P stk hp s→R (Fz stk hp) s.heap→src hp→(∀a,J a→stk a)→
  (∀h' tk,(∀b o,¬J b→s.heap.get? b=some o→h'.get? b=some o)→(∀a,Jo a→∃o,h'.get? a=some o)→Q {s with heap:=h',toks:=tk})→
  wpAny P.M A (pyNext (.ref I)) (λr s1=>r=ae∧Q s1) E s
 frame:∀i h h',St i h→(∀b,J b→∀o,h.get? b=some o→h'.get? b=some o)→St i h'
 self:∀(A:aC) i (s:af)(Q:Value→af→Prop)(E:Value→af→Prop),St i s.heap→Q (.ref I) s→wpAny P.M A (pyIter (.ref I)) Q E s
 live:∀i h,St i h→∀b,J b→∃o,h.get? b=some o∧¬ow o
 rk:∀F F' h h',bW F F' h h'→R F h→R F' h'
 own:J I
section
variable{G:Expr→Prop}{R:(Addr→Prop)→Heap→Prop}{I:Addr}{J Jo:Addr→Prop}{vs:List V}{src:Hp→Prop}{St:Nat→Heap→Prop}
theorem CM.alive(W:CM P G R I J Jo vs src St)(i:Nat)(h:Heap)(z:St i h):∀a,J a→∃o,h.get? a=some o:=λa q=>(by obtain⟨o,g,_⟩:=W.live i h z a q;exact⟨o,g⟩)
theorem CM.nd(W:CM P G R I J Jo vs src St){i:Nat}{h:Heap}(z:St i h):∀a,J a→∀o,h.get? a=some o→¬ow o:=λa q o g=>by
 obtain⟨o',g',n⟩:=W.live i h z a q
 rw[g]at g';cases g';exact n
end
noncomputable def Its(P:dH)(v:V)(vs:List V)(hp hpL:Hp)(G:Expr→Prop)(src:Hp→Prop):Prop:=
 ∀(A:aC)(s:af)(stk:Addr→Prop)(x:Value)(Q:Value→af→Prop)(E:Value→af→Prop),A.handled=none→HeapOk P stk hp s→P.VR stk hp s.heap v x→
  (∀I J Jo R St h',Wen hp hpL s.heap J Jo→(∀b o,s.heap.get? b=some o→h'.get? b=some o)→CM P G R I J Jo vs src St→St 0 h'→R (Fz stk hp) s.heap→Q (.ref I) {s with heap:=h'})→wpAny P.M A (pyIter x) Q E s
structure Fd(P:dH)(v:V)(x:Value)(I:Addr)(vs:List V)(src:Hp→Prop)(St:Nat→Heap→Prop):Prop where
 item:∀(A:aC)(target:Expr)(i:Nat)(s:af)(hp:Hp)(stk:Addr→Prop)(Q:Value→af→Prop)(E:Value→af→Prop)(hi:i<vs.length),A.handled=none→St i s.heap→HeapOk P stk hp s→P.VR stk hp s.heap v x→src hp→stk I→
  (∀y h' tk,P.VR stk hp h' vs[i] y→St (i+1) h'→(∀b o,b≠I→s.heap.get? b=some o→h'.get? b=some o)→Q y {s with heap:=h',toks:=tk})→
  wpAny P.M A (pyNext (.ref I)) (λr s1=>∃y,r=some y∧wpAny P.M A (letOwnedTupleGo target (.ref I) y) (λz s2=>Q y s2) E s1) E s
 done:∀(A:aC)(s:af)(hp:Hp)(stk:Addr→Prop)(Q:af→Prop)(E:Value→af→Prop),A.handled=none→St vs.length s.heap→HeapOk P stk hp s→P.VR stk hp s.heap v x→src hp→stk I→
  (∀h' tk,(∀b o,b≠I→s.heap.get? b=some o→h'.get? b=some o)→Q {s with heap:=h',toks:=tk})→
  wpAny P.M A (pyNext (.ref I)) (λr s1=>r=ae∧Q s1) E s
 frame:∀i h h',St i h→(∀o,h.get? I=some o→h'.get? I=some o)→St i h'
 self:∀(A:aC) i (s:af)(Q:Value→af→Prop)(E:Value→af→Prop),St i s.heap→Q (.ref I) s→wpAny P.M A (pyIter (.ref I)) Q E s
 live:∀i h,St i h→∃o,h.get? I=some o∧¬ow o
noncomputable def Its1(P:dH)(v:V)(vs:List V)(hp:Hp)(src:Hp→Prop):Prop:=
 ∀(A:aC)(s:af)(stk:Addr→Prop)(x:Value)(Q:Value→af→Prop)(E:Value→af→Prop),A.handled=none→HeapOk P stk hp s→P.VR stk hp s.heap v x→
  (∀I St h',s.heap.get? I=ae→(∀b o,s.heap.get? b=some o→h'.get? b=some o)→Fd P v x I vs src St→St 0 h'→Q (.ref I) {s with heap:=h'})→wpAny P.M A (pyIter x) Q E s
theorem Its1.its{v:V}{vs:List V}{hp:Hp}{src:Hp→Prop}(h:Its1 P v vs hp src):Its P v vs hp hp (λy=>True) src:=by
 intro A s stk x Q E hh ok r k
 refine h A s stk x Q E hh ok r λI St h' hn kp W st0=>?_
 refine k I (one I) (λy=>False) (λF h=>VR P.nm F h v x) St h' (Wen.one ok hn) kp ⟨λA t i s hp stk Q E hi y hh st ok r hv hI q=>W.item A t i s hp stk Q E hi hh st ok r hv (hI I rfl) q,λA s hp stk Q E hh st ok r hv hI q=>W.done A s hp stk Q E hh st ok r hv (hI I rfl) λh' tk k2=>q h' tk k2 λy z=>z.elim,λi h h' st kk=>W.frame i h h' st λo g=>kk I rfl o g,W.self,λi h st b z=>z▸W.live i h st,λF F' h h' ky r=>VR.keep ky r,rfl⟩ st0 r
noncomputable def u9(T:String):Bool:= !["enumerate", "zip", "dict_itemiterator", "dict_reverseitemiterator", "odict_iterator", "itertools.zip_longest", "itertools.pairwise"].contains T
theorem fj{A:aC}{s:af}{E:Value→af→Prop}{target:Expr}{I:Addr}{o:Obj}{T:String}{y:Value}{Q:Unit→af→Prop}(ho:s.heap.get? I=some o)(hc:o.cls= .type T)(hT:u9 T=true)(hq:Q () s):wpAny P.M A (letOwnedTupleGo target (.ref I) y) Q E s:=by
 have h2:wpAny P.M A (do let (.ref r,.ref a):=(dK I,y)|return
                         let o←load r
                         match o.cls,o.data with
                         | .type n,.fields vs=>
                           if ["enumerate", "zip", "dict_itemiterator", "dict_reverseitemiterator", "odict_iterator", "itertools.zip_longest", "itertools.pairwise"].contains n&&vs[0]?==some (rawInt a)then
                            rule "for.unpacks-the-owned-tuple"
                            updateField r 0 .none
                         |_,_=>pure ()) Q E s:=by
  cases y with
  |ref a=>
   refine wpAny_bind (wpAny_load ho ?_)
   obtain⟨c,dd,dt,sl⟩:=o
   simp only at hc
   subst hc
   cases dt<;>first|exact wpAny_pure hq|skip
   have hT':(["enumerate", "zip", "dict_itemiterator", "dict_reverseitemiterator", "odict_iterator", "itertools.zip_longest", "itertools.pairwise"].contains T)=false:=by
    unfold u9 at hT;simpa using hT
   simp only[hT',BE,cC,if_false]
   exact wpAny_pure hq
  |_=>exact wpAny_pure hq
 unfold letOwnedTupleGo
 cases target<;>first|exact wpAny_pure hq|exact h2
theorem nD_fields{o:Obj}{vs:Array Value}(h:o.data= .fields vs):¬ow o:=by rintro⟨es,n,e⟩;rw[h]at e;cases e
theorem its_list{v:V}{vs:List V}{hp:Hp}(h:cg hp v=some vs):Its1 P v vs hp (λhp'=>cg hp' v=some vs):=by
 intro A s stk x Q E hh ok r k
 obtain⟨a,xs,rfl,p,rx⟩:=bz ok r h
 refine kW p.isList (k _ (λi h=>h.IsListIter s.heap.objs.size a i) _ (eV _) (λb o e=>an _ e) ?_ ⟨_,aw _ rfl,rfl,rfl⟩)
 refine⟨λA target i s hp stk Q E hi hh st ok r hv hI q=>?_,λA s hp stk Q E hh st ok r hv hI q=>?_,λi h h' st kk=>?_,λA i s Q E st q=>wpAny_pyIter_listiter st q,(by rintro i h ⟨o,e,_,z⟩;exact⟨o,e,nD_fields z⟩)⟩
 ·obtain⟨a',xs,e,p,rx⟩:=bz ok r hv
  cases e
  obtain⟨y,ey,ry⟩:=rx.get (au hi)
  refine wpAny_pyNext_list_item st p.isList (x:=y) (by rw[←cL];exact ey) λh' st' sb=>⟨y,rfl,?_⟩
  refine(id st').elim λo r1_=>r1_.elim λho r2_=>r2_.elim λhc w=>?_
  refine fj (T:= "list_iterator") ho hc (by decide) (q y h' s.toks (ry.keep ?_) st' λb o n e=>(sb.2 b n).trans e)
  rintro c oc f g
  exact⟨f,(sb.2 c (λz=>f.2 (z▸hI))).trans g⟩
 ·obtain⟨a',xs,e,p,rx⟩:=bz ok r hv
  cases e
  have hl:=rx.length
  refine wpAny_pyNext_list_end hh st p.isList (by rw[←cL];exact c8 (by lia)) λh' sb=>⟨rfl,q h' s.toks λb o n e=>sb b o n e⟩
 ·refine st.elim λo r1_=>r1_.elim λe z=>?_;exact⟨o,kk o e,z⟩
end Mine
namespace Mine
variable{P:dH}{Fl:iq}{d:Nat}{sc:Scope}
theorem its_tup{vs:List V}{hp:Hp}:Its1 P (.tup vs) vs hp (λw=>True):=by
 intro A s stk x Q E hh ok r k
 obtain⟨a,xs,rfl,f,⟨n,g⟩,rx⟩:=r
 refine wpAny_pyIter_tuple (t:=a) (items:=xs) ⟨_,g,rfl,n,rfl⟩ (k _ (λi h=>h.IsTupleIter s.heap.objs.size a i) _ (eV _) (λb o e=>an _ e) ?_ ⟨_,aw _ rfl,rfl,rfl⟩)
 refine⟨λA target i s hp stk Q E hi hh st ok r hv hI q=>?_,λA s hp stk Q E hh st ok r hv hI q=>?_,λi h h' st kk=>?_,λA i s Q E st q=>wpAny_pyIter_tupleiter st q,(by rintro i h ⟨o,e,_,z⟩;exact⟨o,e,nD_fields z⟩)⟩
 ·obtain⟨a',xs,e,f,⟨n,g⟩,rx⟩:=r
  cases e
  obtain⟨y,ey,ry⟩:=rx.get (au hi)
  refine wpAny_pyNext_tuple_item st (items:=xs) ⟨_,g,rfl,n,rfl⟩ (x:=y) (by rw[←cL];exact ey) λh' st' sb=>⟨y,rfl,?_⟩
  refine(id st').elim λo r1_=>r1_.elim λho r2_=>r2_.elim λhc w=>?_
  refine fj (T:= "tuple_iterator") ho hc (by decide) (q y h' s.toks (ry.keep ?_) st' λb o n e=>(sb.2 b n).trans e)
  rintro c oc f g
  exact⟨f,(sb.2 c (λz=>f.2 (z▸hI))).trans g⟩
 ·obtain⟨a',xs,e,f,⟨n,g⟩,rx⟩:=r
  cases e
  have hl:=rx.length
  exact wpAny_pyNext_tuple_end hh st (items:=xs) ⟨_,g,rfl,n,rfl⟩ (by rw[←cL];exact c8 (by lia)) λh' sb=>⟨rfl,q h' s.toks λb o n e=>sb b o n e⟩
 ·refine st.elim λo r1_=>r1_.elim λe z=>?_;exact⟨o,kk o e,z⟩
noncomputable def dp(lo hi:Int):List V:=(az (hi - lo).toNat).map λk=>.int (lo+(k:Nat))
theorem oh{lo hi:Int}{i:Nat}(h:i<(dp lo hi).length):(dp lo hi)[i]= .int (lo+i):=by simp[dp]
theorem g9{lo hi:Int}:(dp lo hi).length=(hi - lo).toNat:=by simp[dp]
theorem rangeSize_one(lo hi:Int):b9 lo hi 1=((hi - lo).toNat:Int):=by
 unfold b9
 split
 ·simp;split<;>lia
 ·lia
theorem its_rng{lo hi:Int}{hp:Hp}(hs:bQ lo hi 1=true∨hi≤lo):Its1 P (.rng lo hi) (dp lo hi) hp (λz=>True):=by
 intro A s stk x Q E hh ok r k
 obtain⟨a,t,u,v,rfl,f,g⟩:=r
 by_cases hsm:bQ lo hi 1=true
 ·refine CE g hsm (k _ (λi h=>IsRangeIter h s.heap.objs.size (lo+i) (((hi - lo).toNat:Int) - i) 1) _ (eV _) (λb o e=>an _ e) ?_ ?_)
  ·refine⟨λA target i s hp stk Q E hi' hh st ok r hv hI q=>?_,λA s hp stk Q E hh st ok r hv hI q=>?_,λi h h' st kk=>kk _ st,λA i s Q E st q=>wpAny_pyIter_rangeiter st q,λi h e=>⟨_,e,nD_fields rfl⟩⟩
   ·rw[g9]at hi'
    refine wpAny_pyNext_range_item st (by lia) λh' st' sb=>⟨_,rfl,?_⟩
    have e1:lo+(i:Int)+1=lo+((i+1:Nat):Int):=by lia
    have e2:((hi - lo).toNat:Int) - (i:Int) - 1=((hi - lo).toNat:Int) - ((i+1:Nat):Int):=by lia
    refine fj (T:= "range_iterator") st' rfl (by decide) (q _ h' _ ?_ (by rw[←e1,←e2];exact st') λb o n e=>(sb.2 b n).trans e)
    rw[oh];exact vInt
   ·rw[g9]at st
    exact wpAny_pyNext_range_end hh st (by lia) λh' sb=>⟨rfl,q h' s.toks λb o n e=>sb b o n e⟩
  ·have:=rangeSize_one lo hi
   rw[←this]
   have e:=aw s.heap (o:={cls:=.type "range_iterator",data:=.fields #[rawInt lo,rawInt (b9 lo hi 1),rawInt 1]}) rfl
   simpa using e
 ·have hle:hi≤lo:=hs.resolve_left hsm
  have hb:bQ lo hi 1=false:=by simpa using hsm
  have hz:b9 lo hi 1=0:=by rw[rangeSize_one];lia
  refine wpAny_pyIter_longrange g hb (k _ (λi h=>i=0∧IsLongIter h s.heap.objs.size lo 0 1) _ (eV _) (λb o e=>an _ e) ?_ ?_)
  ·refine⟨λA target i s hp stk Q E hi' hh st ok r hv hI q=>?_,λA s hp stk Q E hh st ok r hv hI q=>?_,λi h h' st kk=>⟨st.1,kk _ st.2⟩,λA i s Q E st q=>wpAny_pyIter_longiter st.2 q,λi h e=>⟨_,e.2,nD_fields rfl⟩⟩
   ·rw[g9]at hi';lia
   ·exact wpAny_pyNext_long_end hh st.2 (vU _) λh' sb=>⟨rfl,q h' s.toks λb o n e=>sb b o n e⟩
  ·refine⟨rfl,?_⟩
   have e:=aw s.heap (o:={cls:=.type "longrange_iterator",data:=.fields #[rawInt lo,rawInt (b9 lo hi 1),rawInt 1]}) rfl
   rw[hz]at e⊢
   exact e
theorem um{F:Addr→Prop}{h:Heap}:∀{es:List (Int×V)}{kvs:List (Int×Value)}{i:Nat}{k:Int}{v:V},ER P.nm F h es kvs→es[i]?=some (k,v)→∃x,kvs[i]?=some (k,x)∧VR P.nm F h v x
 | [],_,_,_,_,_,e=>by cases e
 |(k,v)::es,kvs,0,_,_,r,e=>by
  obtain⟨y,ys,rfl,p,_⟩:=r
  cases e
  exact⟨y,rfl,p⟩
 |(k,v)::es,kvs,i+1,_,_,r,e=>by
  obtain⟨y,ys,rfl,p,q⟩:=r
  have:=um q (i:=i) (by simpa using e)
  simpa using this
theorem nL{F:Addr→Prop}{h:Heap}:∀{es:List (Int×V)}{kvs:List (Int×Value)},ER P.nm F h es kvs→kvs.length=es.length:=by
 intro xs_
 induction xs_ with
 |nil=>
  intro _ r
  cases r;rfl
 |cons e_ es ih=>
  obtain⟨k,v⟩:=e_
  intro kvs r
  obtain⟨y,ys,rfl,p,q⟩:=r
  simp[ih q]
theorem its_keys(hz:(P.H₀.get? sysModules).isSome=true){a:Addr}{es:List (Int×V)}{ep:Nat}{hp:Hp}(h:hp a=some (.dict es ep)):Its1 P (.ref a) (es.map λe=>.int e.1) hp (λhp'=>hp' a=some (.dict es ep)):=by
 intro A s stk x Q E hh ok r k
 cases r
 refine(ok.obj a _ h).elim λkvs r1_=>r1_.elim λhd er=>?_
 have hs:=mP ok h hz
 have hlen:=nL er
 refine wpAny_pyIter_dict hs hd (k _ (λi h=>h.IsKeyIter s.heap.objs.size a i es.length ep) _ (eV _) (λb o e=>an _ e) ?_ ⟨_,aw _ rfl,rfl,by rw[hlen];rfl⟩)
 refine⟨λA target i s hp stk Q E hi hh st ok r hv hI q=>?_,λA s hp stk Q E hh st ok r hv hI q=>?_,λi h h' st kk=>?_,λA i s Q E st q=>wpAny_pyIter_keyiter st q,(by rintro i h ⟨o,e,_,z⟩;exact⟨o,e,nD_fields z⟩)⟩
 ·refine(ok.obj a _ hv).elim λkvs r1_=>r1_.elim λhd er=>?_
  have hlen:=nL er
  have hi2:i<es.length:=by simpa using hi
  obtain⟨y,ey,ry⟩:=um er (i:=i) (k:=es[i].1) (v:=es[i].2) (au hi2)
  refine wpAny_pyNext_dict_item (by rw[hlen];exact st) hd ey λkey h' hk st' sb=>⟨key,rfl,?_⟩
  rw[hlen]at st'
  refine(id st').elim λo r1_=>r1_.elim λho r2_=>r2_.elim λhc w=>?_
  obtain⟨t,rfl⟩:=Value.isInt_shape hk
  refine fj (T:= "dict_keyiterator") ho hc (by decide) (q _ h' s.toks ?_ st' λb o n e=>(sb.2 b n).trans e)
  rw[kK];exact vInt
 ·refine(ok.obj a _ hv).elim λkvs r1_=>r1_.elim λhd er=>?_
  have hlen:=nL er
  rw[aj]at st
  exact wpAny_pyNext_dict_end hh (by rw[hlen];exact st) hd (c8 (by lia)) λh' sb=>⟨rfl,q h' s.toks λb o n e=>sb b o n e⟩
 ·refine st.elim λo r1_=>r1_.elim λe z=>?_;exact⟨o,kk o e,z⟩
theorem its_vals{a:Addr}{es:List (Int×V)}{ep:Nat}{hp:Hp}(h:hp a=some (.dict es ep)):Its1 P (.vals a) (es.map λe=>e.2) hp (λhp'=>hp' a=some (.dict es ep)):=by
 intro A s stk x Q E hh ok r k
 obtain⟨v,rfl,f,g⟩:=r
 refine(ok.obj a _ h).elim λkvs r1_=>r1_.elim λhd er=>?_
 have hlen:=nL er
 refine wpAny_pyIter_values (v:=v) ⟨_,g,rfl,rfl⟩ hd (k _ (λi h=>h.IsValIter s.heap.objs.size a i es.length ep) _ (eV _) (λb o e=>an _ e) ?_ ⟨_,aw _ rfl,rfl,by rw[hlen];rfl⟩)
 refine⟨λA target i s hp stk Q E hi hh st ok r hv hI q=>?_,λA s hp stk Q E hh st ok r hv hI q=>?_,λi h h' st kk=>?_,λA i s Q E st q=>wpAny_pyIter_valiter st q,(by rintro i h ⟨o,e,_,z⟩;exact⟨o,e,nD_fields z⟩)⟩
 ·refine(ok.obj a _ hv).elim λkvs r1_=>r1_.elim λhd er=>?_
  have hlen:=nL er
  have hi2:i<es.length:=by simpa using hi
  obtain⟨y,ey,ry⟩:=um er (i:=i) (k:=es[i].1) (v:=es[i].2) (au hi2)
  refine wpAny_pyNext_values_item (by rw[hlen];exact st) hd ey λh' st' sb=>⟨y,rfl,?_⟩
  rw[hlen]at st'
  refine(id st').elim λo r1_=>r1_.elim λho r2_=>r2_.elim λhc w=>?_
  refine fj (T:= "dict_valueiterator") ho hc (by decide) (q _ h' s.toks ?_ st' λb o n e=>(sb.2 b n).trans e)
  rw[kK]
  refine ry.keep ?_
  rintro c oc f g
  exact⟨f,(sb.2 c (λz=>f.2 (z▸hI))).trans g⟩
 ·refine(ok.obj a _ hv).elim λkvs r1_=>r1_.elim λhd er=>?_
  have hlen:=nL er
  rw[aj]at st
  exact wpAny_pyNext_values_end hh (by rw[hlen];exact st) hd (c8 (by lia)) λh' sb=>⟨rfl,q h' s.toks λb o n e=>sb b o n e⟩
 ·refine st.elim λo r1_=>r1_.elim λe z=>?_;exact⟨o,kk o e,z⟩
theorem its_str{l:List Nat}{hp:Hp}(ha:l.all (·<128)=true):Its1 P (.str l) (l.map λc=>.str [c]) hp (λy=>True):=by
 intro A s stk x Q E hh ok r k
 obtain⟨t,rfl⟩:=r
 have hT:strIterType ⟨l.toArray⟩= "str_ascii_iterator" :=by unfold strIterType;rw[if_pos (by simpa using ha)]
 refine wpAny_pyIter_strU ?_
 rw[hT]
 refine k _ (λi h=>h.IsStrIter s.heap.objs.size "str_ascii_iterator" ⟨l.toArray⟩ t i) _ (eV _) (λb o e=>an _ e) ?_ ⟨_,aw _ rfl,rfl,rfl⟩
 refine⟨λA target i s hp stk Q E hi hh st ok r hv hI q=>?_,λA s hp stk Q E hh st ok r hv hI q=>?_,λi h h' st kk=>?_,λA i s Q E st q=>wpAny_pyIter_striter_ascii st q,(by rintro i h ⟨o,e,_,z⟩;exact⟨o,e,nD_fields z⟩)⟩
 ·have hi2:i<l.length:=by simpa using hi
  refine wpAny_pyNext_ascii_item st (c:=l[i]) (by simp[hi2]) λh' st' sb=>⟨_,rfl,?_⟩
  refine(id st').elim λo r1_=>r1_.elim λho r2_=>r2_.elim λhc y=>?_
  refine fj (T:= "str_ascii_iterator") ho hc (by decide) (q _ h' _ ?_ st' λb o n e=>(sb.2 b n).trans e)
  rw[kK];exact xk
 ·rw[aj]at st
  exact wpAny_pyNext_ascii_end hh st (by simp) λh' sb=>⟨rfl,q h' s.toks λb o n e=>sb b o n e⟩
 ·refine st.elim λo r1_=>r1_.elim λe z=>?_;exact⟨o,kk o e,z⟩
end Mine
namespace Mine
variable{P:dH}{Fl:iq}{d:Nat}{sc:Scope}
noncomputable def eh(hp:Hp):V→Option (List V)
 | .tup vs=>some vs
 | .lst vs=>some vs
 | .ref a=>match hp a with
   |some (.lst vs)=>some vs
   |some (.dict es _)=>some (es.map λe=>.int e.1)
   |_=>ae
 | .vals a=>match hp a with
   |some (.dict es _)=>some (es.map λe=>e.2)
   |_=>ae
 | .rng lo hi=>if bQ lo hi 1=true∨hi≤lo then some (dp lo hi)else ae
 | .str l=>if l.all (·<128)=true then some (l.map λc=>.str [c])else ae
 |_=>ae
noncomputable def same(v:V)(hp hp':Hp):Prop:=match v with
 | .ref a=>hp' a=hp a
 | .vals a=>hp' a=hp a
 |_=>True
theorem om{hp:Hp}{a:Addr}{us:List V}(h:hp a=some (.lst us)):eh hp (.ref a)=some us:=congrArg (λo:Option O=>match o with|some (O.lst vs)=>some vs|some (.dict es _)=>some (es.map λe:Int×V=>V.int e.1)|_=>ae) h
theorem r8{hp:Hp}{a:Addr}{es:List (Int×V)}{ep:Nat}(h:hp a=some (.dict es ep)):eh hp (.ref a)=some (es.map λe=>.int e.1):=congrArg (λo:Option O=>match o with|some (O.lst vs)=>some vs|some (.dict es _)=>some (es.map λe:Int×V=>V.int e.1)|_=>ae) h
theorem r7{hp:Hp}{a:Addr}{es:List (Int×V)}{ep:Nat}(h:hp a=some (.dict es ep)):eh hp (.vals a)=some (es.map λe=>e.2):=congrArg (λo:Option O=>match o with|some (O.dict es _)=>some (es.map λe:Int×V=>e.2)|_=>ae) h
theorem nO(v:V)(hp:Hp):same v hp hp:=by cases v<;>first|exact trivial|exact rfl
theorem Its1.mono{v:V}{vs:List V}{hp:Hp}{src src':Hp→Prop}(h:Its1 P v vs hp src)(k:∀hp',src' hp'→src hp'):Its1 P v vs hp src':=
 λA s stk x Q E hh ok r q=>h A s stk x Q E hh ok r λI St h' a b W c=>q I St h' a b ⟨λA t i s hp stk Q E hi hh st ok r hv=>W.item A t i s hp stk Q E hi hh st ok r (k hp hv),λA s hp stk Q E hh st ok r hv=>W.done A s hp stk Q E hh st ok r (k hp hv),W.frame,W.self,W.live⟩ c
theorem AB(hz:(P.H₀.get? sysModules).isSome=true){v:V}{vs:List V}{hp:Hp}(h:eh hp v=some vs):Its1 P v vs hp (same v hp):=by
 cases v with
 |tup us=>cases h;exact its_tup.mono λz z=>trivial
 |lst us=>cases h;exact(its_list (hp:=hp) rfl).mono λhp' z=>rfl
 |ref a=>
  change (match hp a with|some (.lst vs)=>some vs|some (.dict es _)=>some (es.map λe:Int×V=>V.int e.1)|_=>ae)=_ at h
  cases hu:hp a with
  |none=>rw[hu]at h;cases h
  |some o=>
   rw[hu]at h
   cases o with
   |lst us=>cases h;exact(its_list (hp:=hp) (v:=.ref a) (listOf_ref hu)).mono λhp' e=>listOf_ref (CQ e hu)
   |dict es ep=>cases h;exact(its_keys hz hu).mono λhp' e=>CQ e hu
   |_=>cases h
 |vals a=>
  change (match hp a with|some (.dict es _)=>some (es.map λe:Int×V=>e.2)|_=>ae)=_ at h
  cases hu:hp a with
  |none=>rw[hu]at h;cases h
  |some o=>
   rw[hu]at h
   cases o with
   |dict es ep=>cases h;exact(its_vals hu).mono λhp' e=>CQ e hu
   |_=>cases h
 |rng lo hi=>
  by_cases hc:bQ lo hi 1=true∨hi≤lo
  ·cases (if_pos hc).symm.trans h;exact(its_rng hc).mono λz z=>trivial
  ·cases (if_neg hc).symm.trans h
 |str l=>
  by_cases hc:l.all (·<128)=true
  ·cases (if_pos hc).symm.trans h;exact(its_str hc).mono λz z=>trivial
  ·cases (if_neg hc).symm.trans h
 |_=>cases h
theorem its_of(hz:(P.H₀.get? sysModules).isSome=true){v:V}{vs:List V}{hp:Hp}(h:eh hp v=some vs):Its P v vs hp hp (λz=>True) (same v hp):=(AB hz h).its
noncomputable def o8:XS:=λz z z=>False
noncomputable def eK(v:V)(hp0:Hp)(t:DA)(b:DS)(Q:Fw→bk→Hp→Prop):List V→bk→Hp→Prop
 | [],loc,hp=>Q .next loc hp
 |u::us,loc,hp=>t u (λloc1 hp1=>b (λw loc2 hp2=>match w with
   | .next=>same v hp0 hp2∧eK v hp0 t b Q us loc2 hp2
   | .cont=>same v hp0 hp2∧eK v hp0 t b Q us loc2 hp2
   | .brk=>Q .next loc2 hp2
   | .ret r=>Q (.ret r) loc2 hp2) o8 loc1 hp1) o8 loc hp
theorem Cq{v:V}{hp0:Hp}{t:DA}{b:DS}{Q:Fw→bk→Hp→Prop}{loc:bk}{hp:Hp}:eK v hp0 t b Q [] loc hp=Q .next loc hp:=rfl
theorem Cr{v:V}{hp0:Hp}{t:DA}{b:DS}{Q:Fw→bk→Hp→Prop}{loc:bk}{hp:Hp}{u:V}{us:List V}:eK v hp0 t b Q (u::us) loc hp=t u (λloc1 hp1=>b (λw loc2 hp2=>match w with
 | .next=>same v hp0 hp2∧eK v hp0 t b Q us loc2 hp2
 | .cont=>same v hp0 hp2∧eK v hp0 t b Q us loc2 hp2
 | .brk=>Q .next loc2 hp2
 | .ret r=>Q (.ret r) loc2 hp2) o8 loc1 hp1) o8 loc hp:=rfl
noncomputable def i8(e:DE)(t:DA)(b:DS):DS:=λQ X loc hp=>e (λv hp1=>∃vs,eh hp1 v=some vs∧eK v hp1 t b Q vs loc hp1) (λk hp'=>X k loc hp') loc hp
theorem Ba{own stk:Addr→Prop}{J:Addr→Prop}{hp:Hp}{s':af}{h2:Heap}{tk:Nat}(hal:∀a,J a→∃o,h2.get? a=some o)(nd:∀a,J a→∀o,s'.heap.get? a=some o→¬ow o)(k2:∀b o,¬J b→s'.heap.get? b=some o→h2.get? b=some o):Ext (cq own J) (cq stk J) hp s' hp {s' with heap:=h2,toks:=tk}:=
 .exact (λb o y n g=>k2 b o (λz=>n (.inr z)) g) (λb o g=>by
  by_cases q:J b
  ·exact hal b q
  ·exact⟨o,k2 b o q g⟩) (λb o y g d=>⟨o,k2 b o (λz=>nd b z o g d) g,d⟩) (λy a b=>absurd a b) rfl rfl
theorem Dg{P:dH}{stk:Addr→Prop}{J:Addr→Prop}{hp:Hp}{s':af}{h2:Heap}{tk:Nat}(ok':HeapOk P (cq stk J) hp s')(hal:∀a,J a→∃o,h2.get? a=some o)(ky:bW (Fz (cq stk J) hp) (Fz (cq stk J) hp) s'.heap h2)(k2:∀b o,¬J b→s'.heap.get? b=some o→h2.get? b=some o):HeapOk P (cq stk J) hp {s' with heap:=h2,toks:=tk}:=by
 refine⟨λa o g=>(ok'.obj a o g).keep ky λo z=>k2 a o (λe=>?_) z,ok'.apart,λb o g=>k2 b o (λe=>?_) (ok'.base b o g),ok'.new,ok'.stkn,λa z=>?_,ok'.gens⟩
 ·exact ok'.apart a (by rw[g];intro z;cases z) (.inr e)
 ·rw[ok'.stkn b (.inr e)]at g;cases g
 ·by_cases q:J a
  ·exact hal a q
  ·obtain⟨o,g⟩:=ok'.stkl a z;exact⟨o,k2 a o q g⟩
theorem Dj{P:dH}{A:aC}{stk:Addr→Prop}{env:Env}{loc:bk}{J:Addr→Prop}{hp:Hp}{s':af}{h2:Heap}{tk:Nat}{own:Addr→Prop}(ev':EnvOk P A stk hp env loc s')(e3:Ext own stk hp s' hp {s' with heap:=h2,toks:=tk})(hLI:¬J env.locals)(hCI:∀n c,env.cells.lookup n=some c→¬J c)(ky:bW (Fz stk hp) (Fz stk hp) s'.heap h2)(k2:∀b o,¬J b→s'.heap.get? b=some o→h2.get? b=some o):EnvOk P A stk hp env loc {s' with heap:=h2,toks:=tk}:=by
 refine⟨ev'.kind,ev'.glob,ev'.blt,?_,λj u g kk=>?_,ev'.stkL,ev'.stkC,λn kk=>?_,ev'.apart,ev'.apartL,ev'.frs.step e3,ev'.top⟩
 ·refine ev'.ns.elim λm r1_=>r1_.elim λe2_ hm=>e2_.elim λo r3_=>r3_.elim λes r4_=>r4_.elim λep r5_=>r5_.elim λg rr=>?_
  exact⟨m,⟨o,es,ep,k2 _ _ hLI g,rr⟩,λj u a b=>(by obtain⟨z,p,q⟩:=hm j u a b;exact⟨z,p,q.keep ky⟩)⟩
 ·refine(ev'.cell j u g kk).elim λc r1_=>r1_.elim λz r2_=>r2_.elim λp r3_=>r3_.elim λe4_ q=>e4_.elim λo r5_=>r5_.elim λg rr=>?_
  exact⟨c,z,p,⟨o,k2 _ _ (hCI _ _ p) g,rr⟩,q.keep ky⟩
 ·refine(ev'.cells n kk).elim λc r1_=>r1_.elim λz r2_=>r2_.elim λp e3_=>e3_.elim λo r4_=>r4_.elim λg rr=>?_
  exact⟨c,z,p,⟨o,k2 _ _ (hCI _ _ p) g,rr⟩⟩
inductive Mv(J:Addr→Prop)(s':af)(G:Heap→Prop)(s2:af):Prop
 |intro (h2:Heap) (tk:Nat) (e:s2={s' with heap:=h2,toks:=tk}) (g:G h2) (k:∀b o,¬J b→s'.heap.get? b=some o→h2.get? b=some o):Mv J s' G s2
inductive Dv(P:dH)(A:aC)(stk:Addr→Prop)(env:Env)(R:(Addr→Prop)→Heap→Prop)(J:Addr→Prop)(hp1:Hp)(s1:af)(src:Hp→Prop)(St:Nat→Heap→Prop)(vs:List V)(L:List V→bk→Hp→Prop)(n:Nat)(s':af):Prop
 |intro (i:Nat) (loc':bk) (hp':Hp) (hn:n=vs.length+1 - i) (hi:i≤vs.length) (st:St i s'.heap) (ee:Ext (cq (ip env) J) (cq stk J) hp1 s1 hp' s') (ok:HeapOk P (cq stk J) hp' s') (ev:EnvOk P A (cq stk J) hp' env loc' s') (r:R (Fz (cq stk J) hp') s'.heap) (sm:src hp') (lp:L (vs.drop i) loc' hp'):Dv P A stk env R J hp1 s1 src St vs L n s'
theorem C9{P:dH}{Fl:iq}{A:aC}{own stk:Addr→Prop}{env:Env}(E:Value→af→Prop)(hpx:Hp)(sx:af)(e:Value)(s'':af)(z:PostT P own stk hpx sx (QX P Fl A stk env o8) e s''):E e s'':=by
 obtain⟨_,_,_,k,l,_,hx,_⟩:=z
 exact hx.elim
theorem oM{n i:Nat}(h:i<n):n+1 - (i+1)<n+1 - i:=by
 rw[Nat.add_sub_add_right];exact my (dD h) (ct n)
theorem SimS.forG{t e:Expr}{body:List Stmt}{pos:Pos}{D:DE}{Dt:DA}{it:List Nat}{Db:DS}{G:Expr→Prop}(hG:G t)(hd:0<d)(h:bU P Fl d sc e D)(ht:SimG P Fl d sc t it Dt)(hb:SimSs P Fl d sc body Db)
 (hfs:∀env x,foldedSetIterable e env x=pure x)(htm:∀v Q X loc hp,Dt v Q X loc hp→Dt v (λloc' hp'=>hp'=hp∧Q loc' hp') X loc hp)
 {A:aC}{env:Env}{s:af}{Q:Fw→bk→Hp→Prop}{X:XS}{loc:bk}{hp:Hp}{stk:Addr→Prop}(rm:fA d A)(hs:env.scope=sc)(ev:EnvOk P A stk hp env loc s)(ok:HeapOk P stk hp s)
 {Qe:V→Hp→Prop}(hQe:∀v hp1,Qe v hp1→∃vs hpL u,Its P v vs hp1 hpL G (same u hpL)∧eK u hpL Dt Db Q vs loc hpL)(hD:D Qe (λk hp'=>X k loc hp') loc hp):
 T P (ip env) stk A (exec (.For t e body [] pos) env) hp s (QS P A stk env Q) (QX P Fl A stk env X):=by
 refine wpAny_For (E2 h rm hs ev ok hD λv x hp1 s1 e1 ev1 ok1 hq r=>?_) (hfs env)
 obtain⟨vs,hpL,u,hv,hl⟩:=hQe v hp1 hq
 refine hv A s1 stk x _ _ (rm.hd hd) ok1 r λI J Jo R St h' N kp W st0 r0=>?_
 have hI:∀a,J a→¬stk a:=λa z=>N.notStk ok1 z
 have e2:Ext (ip env) stk hp1 s1 hp1 {s1 with heap:=h'}:=Ext.grow (stk:=stk) (tk:=s1.toks) kp
 have eA:=(e1.of1 (own:=ip env)).trans e2
 have okp:HeapOk P (cq stk J) hpL {s1 with heap:=h'}:=t7 (tk:=s1.toks) ok1 N kp (W.alive 0 _ st0)
 have evp:EnvOk P A (cq stk J) hpL env loc {s1 with heap:=h'}:=ub (tk:=s1.toks) ev1 N kp
 have rp:R (Fz (cq stk J) hpL) h':=W.rk _ _ _ _ (fzPlus N kp) r0
 have hLI:¬J env.locals:=λz=>hI _ z ev1.stkL
 have hCI:∀n c,env.cells.lookup n=some c→¬J c:=λn c p z=>hI _ z (ev1.stkC n c p)
 have hoI:∀a,J a→¬ip env a:=by
  rintro a q (z|⟨n,z⟩)
  ·exact hLI (z▸q)
  ·exact hCI n a z q
 suffices key:∀R:rc→af→Prop,(∀f s',PostT P (ip env) stk hp s (QS P A stk env Q) f s'→R (.ok f) s')→codeAny P.M A (.forLoop t (.ref I) body [] env) R {s1 with heap:=h'}from key _ λm m z=>z
 intro RR hR
 obtain⟨K,hK⟩:∃K:Nat→af→Prop,K=Dv P A stk env R J hpL {s1 with heap:=h'} (same u hpL) St vs (eK u hpL Dt Db Q):=⟨_,rfl⟩
 refine codeAny_forLoop_any K ?_ (vs.length+1) (by rw[hK];exact⟨0,loc,hpL,rfl,bx _,st0,.refl ..,okp,evp,rp,nO u hpL,hl⟩)
 intro n s' hj
 rw[hK]at hj
 obtain⟨i,loc',hp',hn',hi,st,ee,ok',ev',r',sm,lp⟩:=hj
 by_cases hlt:i<vs.length
 ·refine wpAny_mono (W.item A t i s' hp' (cq stk J) (λy=>Mv J s' λh2=>P.VR (cq stk J) hp' h2 vs[i] y∧St (i+1) h2) _ hlt hG (rm.hd hd) st ok' r' sm (λm z=>.inr z) λy h2 tk ry st2 k2=>⟨h2,tk,rfl,⟨ry,st2⟩,k2⟩) (λrr s2 hh=>?_) λm m z=>z
  obtain⟨y,rfl,hw⟩:=hh
  refine wpAny_mono hw (λm s3 hq=>?_) λm m z=>z
  obtain⟨h2,tk,rfl,⟨ry,st2⟩,k2⟩:=hq
  have ky:bW (Fz (cq stk J) hp') (Fz (cq stk J) hp') s'.heap h2:=λa o f g=>⟨f,k2 a o (λz=>f.2 (.inr z)) g⟩
  have e3:=Ba (own:=ip env) (stk:=stk) (hp:=hp') (tk:=tk) (W.alive _ _ st2) (W.nd st) k2
  have ok3:=Dg (tk:=tk) ok' (W.alive _ _ st2) ky k2
  have ev3:=Dj ev' e3 hLI hCI ky k2
  have hdrop:vs.drop i=vs[i]::vs.drop (i+1):=sv hlt
  rw[hdrop,Cr]at lp
  refine wpAny_mono (ht.wide rm hs ev3 ok3 ry (htm _ _ _ _ _ lp)) (λm s4 hq=>?_) (C9 _ _ _)
  obtain⟨hp4,e4,ok4,loc4,ev4,h4,q4⟩:=hq
  subst h4
  refine wpAny_mono (hb A env s4 _ o8 loc4 hp4 (cq stk J) rm hs ev4 ok4 q4) (λf s5 hq=>?_) (C9 _ _ _)
  obtain⟨hp5,e5,ok5,w,loc5,ev5,q5,r5⟩:=hq
  have e45:Ext (ip env) (cq stk J) hp4 {s' with heap:=h2,toks:=tk} hp5 s5:=e4.trans e5
  have eT:Ext (cq (ip env) J) (cq stk J) hpL {s1 with heap:=h'} hp5 s5:=(ee.trans e3).trans (e45.wider λb z=>.inl z)
  have st5:St (i+1) s5.heap:=W.frame _ _ _ st2 λb z o g=>e45.same (by
   cases q:hp4 b with
   |none=>rfl
   |some ob=>exact absurd (.inr z) (ok'.apart b (by rw[q];intro z;cases z))) (hoI b z) (.inr (W.nd st2 b z o g)) g
  have r5v:R (Fz (cq stk J) hp5) s5.heap:=W.rk _ _ _ _ (e45.keepy λb z=>.inl (ev1.own b z)) (W.rk _ _ _ _ ky r')
  have fin:Ext (ip env) stk hp s hp5 s5:=(e1.of1 (own:=ip env)).trans (tA e2 N eT)
  have evm:EnvOk P A stk hp5 env loc5 s5:=AK ev5 ev1.stkL ev1.stkC (ev.frs.step fin)
  revert q5
  refine BH.inv r5 (λq5=>?_) (λq5=>?_) (λq5=>?_) (λu y r5 q5=>?_)
  ·exact⟨vs.length+1 - (i+1),hn'.symm▸oM hlt,by rw[hK];exact⟨i+1,loc5,hp5,rfl,hlt,st5,eT,ok5,ev5,r5v,q5.1,q5.2⟩⟩
  ·exact hR _ _ ⟨hp5,fin,va ok5,.next,loc5,evm,q5,trivial⟩
  ·exact⟨vs.length+1 - (i+1),hn'.symm▸oM hlt,by rw[hK];exact⟨i+1,loc5,hp5,rfl,hlt,st5,eT,ok5,ev5,r5v,q5.1,q5.2⟩⟩
  ·exact hR _ _ ⟨hp5,fin,va ok5,.ret _,loc5,evm,q5,VR.keep fzMinus r5⟩
 ·have hin:i=vs.length:=fR hi (bZ hlt)
  rw[hin]at st lp
  refine wpAny_mono (W.done A s' hp' (cq stk J) (Mv J s' λh2=>∀a,Jo a→∃o,h2.get? a=some o) _ (rm.hd hd) st ok' r' sm (λm z=>.inr z) λh2 tk k2 al=>⟨h2,tk,rfl,al,k2⟩) (λrr s2 hh=>?_) λm m z=>z
  obtain⟨rfl,h2,tk,rfl,al,k2⟩:=hh
  rw[o6,Cq]at lp
  obtain⟨ex,okx,evx⟩:=leaveI (env:=env) (loc:=loc') (tk:=tk) e2 N ee hI ok' al k2
  exact tH (hR _ _ ⟨hp',(e1.of1 (own:=ip env)).trans ex,okx,.next,loc',evx ev1.stkL ev1.stkC ev1.frs ev',lp,trivial⟩)
theorem SimS.for{t e:Expr}{body:List Stmt}{pos:Pos}{D:DE}{Dt:DA}{it:List Nat}{Db:DS}(hz:(P.H₀.get? sysModules).isSome=true)(hd:0<d)(h:bU P Fl d sc e D)(ht:SimG P Fl d sc t it Dt)(hb:SimSs P Fl d sc body Db)
 (hfs:∀env x,foldedSetIterable e env x=pure x)(htm:∀v Q X loc hp,Dt v Q X loc hp→Dt v (λloc' hp'=>hp'=hp∧Q loc' hp') X loc hp):SimS P Fl d sc (.For t e body [] pos) (i8 D Dt Db):=by
 intro A env s Q X loc hp stk rm hs ev ok hD
 exact SimS.forG (G:=λz=>True) trivial hd h ht hb hfs htm rm hs ev ok (λv hp1 h=>by obtain⟨vs,hv,hl⟩:=h;exact⟨vs,hp1,v,its_of hz hv,hl⟩) hD
end Mine
namespace Mine
variable{P:dH}{Fl:iq}{d:Nat}{sc:Scope}
noncomputable def lT:List DA→List V→(bk→Hp→Prop)→XS→bk→Hp→Prop
 | [],[],Q,_,loc,hp=>Q loc hp
 |t::ts,u::us,Q,X,loc,hp=>t u (λloc1 hp1=>lT ts us Q X loc1 hp1) X loc hp
 |_,_,_,_,_,_=>False
noncomputable def lS(ts:List DA):DA:=λv Q X loc hp=>∃us,v= .tup us∧lT ts us Q X loc hp
inductive SimGs(P:dH)(Fl:iq)(d:Nat)(sc:Scope):List Expr→List Nat→List DA→Prop
 |nil:SimGs P Fl d sc [] [] []
 |cons {t:Expr} {ts:List Expr} {i is:List Nat} {D:DA} {Ds:List DA}:SimG P Fl d sc t i D→SimGs P Fl d sc ts is Ds→SimGs P Fl d sc (t::ts) (i++is) (D::Ds)
theorem tt:∀{ts:List DA}{us:List V}{Q:bk→Hp→Prop}{X:XS}{loc:bk}{hp:Hp},lT ts us Q X loc hp→(∀t∈ts,∀v Q X loc hp,t v Q X loc hp→∃loc' hp',Q loc' hp')→ts.length=us.length
 | [],[],_,_,_,_,_,_=>rfl
 | [],_::_,_,_,_,_,h,_=>h.elim
 |_::_,[],_,_,_,_,h,_=>h.elim
 |t::ts,u::us,Q,X,loc,hp,h,k=>by
  obtain⟨l,p,z⟩:=k t ak _ _ _ _ _ h
  simp[tt z λt ht=>k t (aq _ ht)]
theorem AD{A:aC}{env:Env}{stk:Addr→Prop}(rm:fA d A)(hs:env.scope=sc):∀{ts:List Expr}{is:List Nat}{Ds:List DA},SimGs P Fl d sc ts is Ds→∀{us:List V}{ys:List Value}{s:af}{Q:bk→Hp→Prop}{X:XS}{loc:bk}{hp:Hp},EnvOk P A stk hp env loc s→HeapOk P stk hp s→P.VRs stk hp s.heap us ys→lT Ds us Q X loc hp→
 T P (nu P env is) stk A (assignInOrder (ts.map λt=>assign t env) ys) hp s (QG P A stk env Q) (QX P Fl A stk env X):=by
 intro ts is Ds h
 induction h with
 |nil=>
  intro us ys s Q X loc hp ev ok r hD
  cases us with
  |nil=>cases r;exact wpAny_pure ⟨hp,.refl ..,ok,loc,ev,hD⟩
  |cons u us=>exact hD.elim
 |cons h1 _ ih=>
  intro us ys s Q X loc hp ev ok r hD
  cases us with
  |nil=>exact hD.elim
  |cons u us=>
   obtain⟨y,ys,rfl,ry,rys⟩:=r
   refine lD (wpAny_mono (h1 A env s _ X loc hp stk u y rm hs ev ok ry hD) (λx s1 hq=>?_) (by rintro _ _ ⟨hp',e,z,z'⟩;exact⟨hp',e.wider (je λi hi=>cz _ hi),z,z'⟩))
   obtain⟨hp1,e1,ok1,loc1,ev1,q1⟩:=hq
   refine T.nxt (e1.wider (je λi hi=>cz _ hi)) (wpAny_mono (ih ev1 ok1 (VRs.keep (e1.keepy λb z=>ev.own b (ownI_E b z)) rys) q1) (by rintro _ _ ⟨hp',e,z,z'⟩;exact⟨hp',e.wider (je λi hi=>eS _ hi),z,z'⟩) (by rintro _ _ ⟨hp',e,z,z'⟩;exact⟨hp',e.wider (je λi hi=>eS _ hi),z,z'⟩))
theorem SimG.tup{ts:List Expr}{k:Nat}{pos:Pos}{Ds:List DA}{is:List Nat}(hd:0<d)(h:SimGs P Fl d sc ts is Ds)(he:∀env,assignEach ts env=ts.map λt=>(false,assign t env))(hl:ts.length=Ds.length)(hq:∀t∈Ds,∀v Q X loc hp,t v Q X loc hp→∃loc' hp',Q loc' hp'):
 SimG P Fl d sc (.Tuple ts k pos) is (lS Ds):=by
 rintro A env s Q X loc hp stk v x rm hs ev ok r ⟨us,hv,hD⟩
 subst hv
 obtain⟨a,xs,rfl,f,⟨n,g⟩,rx⟩:=r
 have hlen:=tt hD hq
 have hx:=rx.length
 refine wpAny_assign_Tuple (rm.hd hd) (items:=xs) ⟨_,g,rfl,n,rfl⟩ ?_ ?_ λh' kp=>?_
 ·rw[he env,aj]
  have:xs.size=xs.toList.length:=by simp
  lia
 ·rw[he env]
  rw[List.findIdx?_eq_none_iff]
  intro x hx
  obtain⟨t,_,rfl⟩:=ay.mp hx
  rfl
 ·rw[he env,bF]
  have kp':∀b o,s.heap.get? b=some o→h'.get? b=some o:=λb o e=>kp b o (cR (bJ e)) e
  have e1:Ext no1 stk hp s hp {s with heap:=h'}:=Ext.grow (stk:=stk) (tk:=s.toks) kp'
  exact T.nxt e1.of1 (AD rm hs h (ev.step ok e1) (ok.grow (tk:=s.toks) kp') (iQ kp' rx) hD)
theorem eE(i:Nat):∀v Q X loc hp,aG i v Q X loc hp→aG i v (λloc' hp'=>hp'=hp∧Q loc' hp') X loc hp:=λz z z z z h=>⟨rfl,h⟩
theorem AG(i:Nat):∀v Q X loc hp,aG i v Q X loc hp→∃loc' hp',Q loc' hp':=λz z z z z h=>⟨_,_,h⟩
theorem iP(is:List Nat):∀t∈is.map aG,∀v Q X loc hp,t v Q X loc hp→∃loc' hp',Q loc' hp':=by
 intro t ht
 obtain⟨i,_,rfl⟩:=ay.mp ht
 exact AG i
noncomputable def kZ(t:DT)(b o:DS)(Q:Fw→bk→Hp→Prop):Nat→bk→Hp→Prop
 |0,_,_=>False
 |n+1,loc,hp=>t (λc hp1=>if c then b (λw loc2 hp2=>match w with
   | .next=>kZ t b o Q n loc2 hp2
   | .cont=>kZ t b o Q n loc2 hp2
   | .brk=>Q .next loc2 hp2
   | .ret r=>Q (.ret r) loc2 hp2) o8 loc hp1 else o Q o8 loc hp1) (λk hp'=>False) loc hp
theorem xL{t:DT}{b o:DS}{Q:Fw→bk→Hp→Prop}{n:Nat}{loc:bk}{hp:Hp}:kZ t b o Q (n+1) loc hp=t (λc hp1=>if c then b (λw loc2 hp2=>match w with
 | .next=>kZ t b o Q n loc2 hp2
 | .cont=>kZ t b o Q n loc2 hp2
 | .brk=>Q .next loc2 hp2
 | .ret r=>Q (.ret r) loc2 hp2) o8 loc hp1 else o Q o8 loc hp1) (λk hp'=>False) loc hp:=rfl
noncomputable def mm(t:DT)(b o:DS):DS:=λQ X loc hp=>∃n,kZ t b o Q n loc hp
inductive Dq(P:dH)(A:aC)(stk:Addr→Prop)(env:Env)(hp:Hp)(s:af)(L:Nat→bk→Hp→Prop)(n:Nat)(s':af):Prop
 |intro (loc':bk) (hp':Hp) (e:Ext (ip env) stk hp s hp' s') (ok:HeapOk P stk hp' s') (ev:EnvOk P A stk hp' env loc' s') (lp:L n loc' hp'):Dq P A stk env hp s L n s'
theorem SimS.while{t:Expr}{body orelse:List Stmt}{pos:Pos}{Dt:DT}{Db Do:DS}(ht:SimT P Fl d sc t Dt)(hb:SimSs P Fl d sc body Db)(ho:SimSs P Fl d sc orelse Do):SimS P Fl d sc (.While t body orelse pos) (mm Dt Db Do):=by
 rintro A env s Q X loc hp stk rm hs ev ok ⟨n,hD⟩
 refine wpAny_While ?_
 suffices key:∀R:rc→af→Prop,(∀f s',PostT P (ip env) stk hp s (QS P A stk env Q) f s'→R (.ok f) s')→codeAny P.M A (.whileLoop t body orelse env) R s from key _ λv v z=>z
 intro R hR
 obtain⟨J,hJ⟩:∃J:Nat→af→Prop,J=Dq P A stk env hp s (kZ Dt Db Do Q):=⟨_,rfl⟩
 refine GF rfl J ?_ n (by rw[hJ];exact⟨loc,hp,.refl ..,ok,ev,hD⟩)
 intro n s' hj
 rw[hJ]at hj
 obtain⟨loc',hp',e,ok',ev',lp⟩:=hj
 show wpAny _ _ ((whileTurn t body orelse env).onRaise (λx=>do noteFrame x env;theTreesLotGoes x)) _ _ s'
 rw[show A.under (.whileLoop t body orelse env)=A from Around.under_of_weight rfl]
 refine GQ ?_
 cases n with
 |zero=>exact lp.elim
 |succ n=>
  rw[xL]at lp
  unfold whileTurn
  refine wpAny_bind (wpAny_mono (T2 (X:=o8) ht rm hs ev' ok' lp λc hp1 s1 e1 ev1 ok1 q=>?_) (λv v z=>z) (C9 _ _ _))
  cases c with
  |true=>
   simp only[if_true]at q⊢
   refine wpAny_bind (wpAny_mono (hb A env s1 _ o8 loc' hp1 stk rm hs ev1 ok1 q) (λf s2 hq=>?_) (C9 _ _ _))
   obtain⟨hp2,e2,ok2,w,loc2,ev2,q2,r2⟩:=hq
   have eT:=(e.trans e1.of1).trans e2
   revert q2
   refine BH.inv r2 (λq2=>?_) (λq2=>?_) (λq2=>?_) (λu y r2 q2=>?_)
   ·exact wpAny_pure ⟨rfl,n,ct _,by rw[hJ];exact⟨loc2,hp2,eT,ok2,ev2,q2⟩⟩
   ·exact wpAny_pure (hR _ _ ⟨hp2,eT,ok2,.next,loc2,ev2,q2,trivial⟩)
   ·exact wpAny_pure ⟨rfl,n,ct _,by rw[hJ];exact⟨loc2,hp2,eT,ok2,ev2,q2⟩⟩
   ·exact wpAny_pure (hR _ _ ⟨hp2,eT,ok2,.ret _,loc2,ev2,q2,r2⟩)
  |false=>
   simp only[cC,if_false]at q⊢
   refine wpAny_bind (wpAny_mono (ho A env s1 _ o8 loc' hp1 stk rm hs ev1 ok1 q) (λf s2 h2=>?_) (C9 _ _ _))
   exact wpAny_pure (hR _ _ (h2.back P (e.trans e1.of1)))
end Mine
namespace Mine
noncomputable def innerSem(elt:Expr)(gens:List cB)(scope:Scope)(pos:Pos)(k:Nat)(acc:Value)(env:Env):Sem Unit:=
 match gens[k]? with
 |some g'=>do
  let x←eval g'.iter env
  standAt g'.iter.pos
  let x←if g'.is_async !=0 then foldedIterable g'.iter x else foldedSetIterable g'.iter env x
  let _←runOwn (.compStart (.ListComp elt gens scope pos) k (←holding [x] (if g'.is_async !=0 then asyncIter x else pyIter x)) acc env) env
 |ae=>do let _←call (.builtin "list.append") [acc,←eval elt env]
theorem compTurn_at(elt:Expr)(gens:List cB)(scope:Scope)(pos:Pos)(k:Nat)(it acc:Value)(env:Env)(t iter:Expr)(ifs:List Expr)(hg:gens[k]?=some ⟨t,iter,ifs,0⟩)
 (hn:gens[k+1]?=ae∨∃t' i' f',gens[k+1]?=some ⟨t',i',f',0⟩):
 compTurn (.ListComp elt gens scope pos) k it acc env=(standAt iter.pos>>= λz=>pyNext it>>= λr=>match r with
  |ae=>pure (.done .next)
  |some v=>letOwnedTupleGo t it v>>= λz=>assign t env v>>= λz=>
   (forIn ifs true λc r=>if r=true then do let ok←isTrue c env (eval c env);pure (gG ok)else pure (gG r))>>= λok=>
    if ok=true then(innerSem elt gens scope pos (k+1) acc env>>= λz=>again (.compLoop (.ListComp elt gens scope pos) k it acc env))else again (.compLoop (.ListComp elt gens scope pos) k it acc env)):=by
 unfold compTurn innerSem
 simp only[hg]
 rcases hn with hn|⟨t',i',f',hn⟩
 ·rw[hn];rfl
 ·simp only[hn,bind_assoc,bne_self_eq_false,cC,if_false,pure_bind]
  refine congrArg _ (funext λz=>congrArg _ (funext λr=>?_))
  cases r<;>rfl
theorem compStart_at(elt:Expr)(gens:List cB)(scope:Scope)(pos:Pos)(k:Nat)(it acc:Value)(env:Env)(t iter:Expr)(ifs:List Expr)(hg:gens[k]?=some ⟨t,iter,ifs,0⟩):
 compStart (.ListComp elt gens scope pos) k it acc env=(ask>>= λst=>if st.params.followText "comprehension-iter-twice" =true then(again (.compLoop (.ListComp elt gens scope pos) k it acc env))else
  (rule "comprehension.iter-twice" >>= λz=>standAt iter.pos>>= λz=>pyIter it>>= λit'=>again (.compLoop (.ListComp elt gens scope pos) k it' acc env))):=by
 have hc:clausesOf (.ListComp elt gens scope pos)=gens:=rfl
 unfold compStart
 simp only[hc,hg]
 rfl
variable{A:aC}{P:dH}{Fl:iq}{d:Nat}{sc:Scope}
theorem nD_seq{c:Value}{xs:Array Value}{n:Nat}:¬ow {cls:=c,data:=.seq xs n}:=by rintro⟨es,m,e⟩;cases e
theorem stk_none{stk:Addr→Prop}{hp:Hp}{s:af}(ok:HeapOk P stk hp s){a:Addr}(z:stk a):hp a=ae:=by
 cases q:hp a with
 |none=>rfl
 |some o=>exact absurd z (ok.apart a (by rw[q];intro z;cases z))
theorem okAt{stk:Addr→Prop}{hp:Hp}{s:af}(ok:HeapOk P stk hp s){c:Addr}{h':Heap}{tk:Nat}(hsc:stk c)(hs:bP c s.heap h')(ht:∃o,h'.get? c=some o)(hnd:∀o,s.heap.get? c=some o→¬ow o):
 HeapOk P stk hp {s with heap:=h',toks:=tk}∧bW (Fz stk hp) (Fz stk hp) s.heap h'∧∀own:Addr→Prop,own c→Ext own stk hp s hp {s with heap:=h',toks:=tk}:=by
 have ky:bW (Fz stk hp) (Fz stk hp) s.heap h':=by
  rintro a o f g
  exact⟨f,(hs.2 a (λz=>f.2 (z▸hsc))).trans g⟩
 refine⟨⟨λa o e=>(ok.obj a o e).keep ky λo g=>(hs.2 a ?_).trans g,ok.apart,λb o e=>(hs.2 b ?_).trans (ok.base b o e),ok.new,ok.stkn,λa z=>?_,ok.gens⟩,ky,λown hc=>.exact (λb o e n g=>(hs.2 b (λz=>n (z▸hc))).trans g) (λb o g=>?_) (λb o st g d=>⟨o,(hs.2 b (by rintro rfl;exact hnd o g d)).trans g,d⟩) (λy a b=>absurd a b) rfl rfl⟩
 ·rintro rfl;rw[stk_none ok hsc]at e;cases e
 ·rintro rfl;rw[ok.stkn _ hsc]at e;cases e
 ·by_cases q:a=c
  ·subst q;exact ht
  ·obtain⟨o,e⟩:=ok.stkl a z;exact⟨o,(hs.2 a q).trans e⟩
 ·by_cases q:b=c
  ·subst q;exact ht
  ·exact⟨o,(hs.2 b q).trans g⟩
theorem evAt{stk:Addr→Prop}{hp:Hp}{env:Env}{loc:bk}{s:af}(ev:EnvOk P A stk hp env loc s){c:Addr}{h':Heap}{tk:Nat}(hs:bP c s.heap h')(ky:bW (Fz stk hp) (Fz stk hp) s.heap h')(hL:c≠env.locals)(hC:∀n,env.cells.lookup n≠some c)(hnd:∀o,s.heap.get? c=some o→¬ow o):EnvOk P A stk hp env loc {s with heap:=h',toks:=tk}:=by
 refine⟨ev.kind,ev.glob,ev.blt,?_,λj u g kk=>?_,ev.stkL,ev.stkC,λn kk=>?_,ev.apart,ev.apartL,ev.frs.up (λy z=>z) λb o st g d=>⟨o,(hs.2 b (by rintro rfl;exact hnd o g d)).trans g,d⟩,ev.top⟩
 ·obtain⟨m,n,hm⟩:=ev.ns
  exact⟨m,n.sameBut hs (aS hL),λj u a b=>(by obtain⟨z,p,q⟩:=hm j u a b;exact⟨z,p,q.keep ky⟩)⟩
 ·refine(ev.cell j u g kk).elim λc2 r1_=>r1_.elim λz r2_=>r2_.elim λp r3_=>r3_.elim λg q=>?_
  exact⟨c2,z,p,g.sameBut hs (λz=>hC _ (z▸p)),q.keep ky⟩
 ·refine(ev.cells n kk).elim λc2 r1_=>r1_.elim λz r2_=>r2_.elim λp g=>?_
  exact⟨c2,z,p,g.sameBut hs (λz=>hC _ (z▸p))⟩
theorem EnvOk.weaken{stk:Addr→Prop}{hp:Hp}{env:Env}{loc loc':bk}{s:af}(ev:EnvOk P A stk hp env loc' s)(h:∀i v,loc i=some v→loc' i=some v):EnvOk P A stk hp env loc s:=
 ⟨ev.kind,ev.glob,ev.blt,(by obtain⟨m,n,hm⟩:=ev.ns;exact⟨m,n,λi v a b=>hm i v (h i v a) b⟩),λi v a b=>ev.cell i v (h i v a) b,ev.stkL,ev.stkC,ev.cells,ev.apart,ev.apartL,ev.frs,ev.top⟩
noncomputable abbrev CD:=(List V→Hp→Prop)→List V→bk→Hp→Prop
noncomputable def noXA:XA:=λz z=>False
noncomputable def dJ(e:DE):CD:=λK acc loc hp=>acc.length≤lim∧e (λv hp1=>K (acc++[v]) hp1) noXA loc hp
noncomputable def lQ(v:V)(hp0:Hp)(t:DA)(f:DT)(inner:CD)(K:List V→Hp→Prop):List V→List V→bk→Hp→Prop
 | [],acc,_,hp=>K acc hp
 |u::us,acc,loc,hp=>t u (λloc1 hp1=>f (λb hp2=>if b then inner (λacc' hp3=>same v hp0 hp3∧lQ v hp0 t f inner K us acc' loc hp3) acc loc1 hp2 else same v hp0 hp2∧lQ v hp0 t f inner K us acc loc hp2) noXA loc1 hp1) o8 loc hp
theorem cLpN{v:V}{hp0:Hp}{t:DA}{f:DT}{inner:CD}{K:List V→Hp→Prop}{acc:List V}{loc:bk}{hp:Hp}:lQ v hp0 t f inner K [] acc loc hp=K acc hp:=rfl
theorem zT{v:V}{hp0:Hp}{t:DA}{f:DT}{inner:CD}{K:List V→Hp→Prop}{acc:List V}{loc:bk}{hp:Hp}{u:V}{us:List V}:lQ v hp0 t f inner K (u::us) acc loc hp=t u (λloc1 hp1=>f (λb hp2=>if b then inner (λacc' hp3=>same v hp0 hp3∧lQ v hp0 t f inner K us acc' loc hp3) acc loc1 hp2 else same v hp0 hp2∧lQ v hp0 t f inner K us acc loc hp2) noXA loc1 hp1) o8 loc hp:=rfl
noncomputable def qe(src:DE)(t:DA)(f:DT)(inner:CD):CD:=λK acc loc hp=>src (λv hp1=>∃vs,eh hp1 v=some vs∧lQ v hp1 t f inner K vs acc loc hp1) noXA loc hp
structure CSt(P:dH)(A:aC)(stk:Addr→Prop)(hp:Hp)(env:Env)(loc:bk)(s:af)(D:Addr)(acc:List V):Prop where
 ev:EnvOk P A stk hp env loc s
 ok:HeapOk P stk hp s
 stkD:stk D
 neL:D≠env.locals
 neC:∀n,env.cells.lookup n≠some D
 lst:∃ys,s.heap.PlainList D ys∧P.VRs stk hp s.heap acc ys.toList
noncomputable def nv(P:dH)(env:Env)(ids:List Nat)(D:Addr):Addr→Prop:=λb=>nu P env ids b∨b=D
theorem CSt.own{stk:Addr→Prop}{hp:Hp}{env:Env}{loc:bk}{s:af}{D:Addr}{acc:List V}(c:CSt P A stk hp env loc s D acc){ids:List Nat}:∀b,nv P env ids D b→stk b:=by
 rintro b (z|rfl)
 ·exact c.ev.own b (ownI_E b z)
 ·exact c.stkD
theorem CSt.step{stk:Addr→Prop}{hp hp':Hp}{env:Env}{loc:bk}{s s':af}{D:Addr}{acc:List V}(c:CSt P A stk hp env loc s D acc)(e:Ext no1 stk hp s hp' s')(ok':HeapOk P stk hp' s'):CSt P A stk hp' env loc s' D acc:=by
 refine⟨c.ev.step c.ok e,ok',c.stkD,c.neL,c.neC,?_⟩
 refine c.lst.elim λys r1_=>r1_.elim λe2_ r=>e2_.elim λn g=>?_
 exact⟨ys,⟨n,e.same (stk_none c.ok c.stkD) (λz=>z) (.inr nD_seq) g⟩,j5 e r⟩
theorem CSt.weaken{stk:Addr→Prop}{hp:Hp}{env:Env}{loc loc':bk}{s:af}{D:Addr}{acc:List V}(c:CSt P A stk hp env loc' s D acc)(h:∀i v,loc i=some v→loc' i=some v):CSt P A stk hp env loc s D acc:=⟨c.ev.weaken h,c.ok,c.stkD,c.neL,c.neC,c.lst⟩
noncomputable def SimI(P:dH)(Fl:iq)(d:Nat)(sc:Scope)(elt:Expr)(gens:List cB)(scope:Scope)(pos:Pos)(k:Nat)(ids:List Nat)(Dk:CD):Prop:=
 ∀(A:aC)(env:Env)(s:af)(K:List V→Hp→Prop)(acc:List V)(loc:bk)(hp:Hp)(stk:Addr→Prop)(D:Addr),
  fA d A→env.scope=sc→CSt P A stk hp env loc s D acc→(∀i∈ids,loc i=ae)→Dk K acc loc hp→
  wpAny P.M A (innerSem elt gens scope pos k (.ref D) env) (λz s'=>∃hp' acc',Ext (nv P env ids D) stk hp s hp' s'∧CSt P A stk hp' env loc s' D acc'∧K acc' hp') (λz z=>False) s
theorem nP{own stk:Addr→Prop}{hp:Hp}{s:af}{E:Value→af→Prop}:∀e s'',PostT P own stk hp s (lX Fl noXA) e s''→E e s'':=by
 rintro e s'' ⟨_,_,_,k,hx,_⟩
 exact hx.elim
theorem SimI.elt{elt:Expr}{gens:List cB}{scope:Scope}{pos:Pos}{k:Nat}{De:DE}(hg:gens[k]?=ae)(h:bU P Fl d sc elt De):SimI P Fl d sc elt gens scope pos k [] (dJ De):=by
 intro A env s K acc loc hp stk D rm hs c hf i1_;refine i1_.elim λhl hD=>?_
 unfold innerSem
 rw[hg]
 refine wpAny_bind (wpAny_mono (h A env s _ noXA loc hp stk rm hs c.ev c.ok hD) (λx s1 hq=>?_) nP)
 obtain⟨hp1,e1,ok1,v,q,r⟩:=hq
 have c1:=c.step e1 ok1
 refine c1.lst.elim λys r1_=>r1_.elim λpl ry=>?_
 have hz:ys.size≤sizeLine:=by
  have h1:=ry.length
  have h2:ys.size=ys.toList.length:=rfl
  have:=fB
  omega
 refine wpAny_bind (wpAny_list_append_plain (hsz:=hz) pl λh' pl' sb=>wpAny_pure ?_)
 obtain⟨ok2,ky,ex⟩:=okAt (tk:=s1.toks) ok1 c.stkD sb (by obtain⟨n,g⟩:=pl';exact⟨_,g⟩) (λo g=>by obtain⟨n,g'⟩:=pl;rw[g]at g';cases g';exact nD_seq)
 refine⟨hp1,acc++[v],e1.of1.trans (ex _ (.inr rfl)),⟨evAt c1.ev sb ky c.neL c.neC (λo g=>by obtain⟨n,g'⟩:=pl;rw[g]at g';cases g';exact nD_seq),ok2,c.stkD,c.neL,c.neC,_,pl',?_⟩,q⟩
 rw[xe]
 exact(ry.keep ky).append (vCons (r.keep ky) vNil)
noncomputable def fNone:DT:=λQ z z hp=>Q true hp
noncomputable def eM(P:dH)(Fl:iq)(d:Nat)(sc:Scope)(ifs:List Expr)(Df:DT):Prop:=
 ∀(A:aC)(env:Env)(s:af)(Q:Bool→Hp→Prop)(loc:bk)(hp:Hp)(stk:Addr→Prop),
  fA d A→env.scope=sc→EnvOk P A stk hp env loc s→HeapOk P stk hp s→Df Q noXA loc hp→
  wpAny P.M A (forIn ifs true λc r=>if r=true then do let ok←isTrue c env (eval c env);pure (gG ok)else pure (gG r)) (PostT P no1 stk hp s (λb hp' s'=>Q b hp')) (λz z=>False) s
theorem eM.nil:eM P Fl d sc [] fNone:=λA env s Q loc hp stk rm hs ev ok hD=>wpAny_tests_nil ⟨hp,.refl ..,ok,hD⟩
theorem eM.one{c:Expr}{D:DT}(h:SimT P Fl d sc c D):eM P Fl d sc [c] D:=λA env s Q loc hp stk rm hs ev ok hD=>wpAny_tests_one (wpAny_mono (h A env s Q noXA loc hp stk rm hs ev ok hD) (λy y z=>z) nP)
noncomputable def Tgt(ids:List Nat)(Dt:DA):Prop:=∀v Q X loc hp,(∀i∈ids,loc i=ae)→Dt v Q X loc hp→Dt v (λloc' hp'=>hp'=hp∧(∀i v,loc i=some v→loc' i=some v)∧(∀i,i∉ids→loc' i=loc i)∧Q loc' hp') X loc hp
theorem Tgt.var(i:Nat):Tgt [i] (aG i):=λv Q X loc hp hn h=>⟨rfl,λj u e=>by
 have:j≠i:=by rintro rfl;rw[hn j (ak)]at e;cases e
 rw[upd_ne this];exact e,λj hj=>upd_ne (by simpa using hj),h⟩
theorem tq:∀{is:List Nat}{us:List V}{Q:bk→Hp→Prop}{X:XS}{loc:bk}{hp:Hp},is.Nodup→(∀i∈is,loc i=ae)→lT (is.map aG) us Q X loc hp→lT (is.map aG) us (λloc' hp'=>hp'=hp∧(∀i v,loc i=some v→loc' i=some v)∧(∀i,i∉is→loc' i=loc i)∧Q loc' hp') X loc hp
 | [],[],_,_,_,_,_,_,h=>⟨rfl,λy y e=>e,λy y=>rfl,h⟩
 | [],_::_,_,_,_,_,_,_,h=>h.elim
 |_::_,[],_,_,_,_,_,_,h=>h.elim
 |i::is,u::us,Q,X,loc,hp,hnd,hn,h=>by
  rw[aP]at hnd
  have hn':∀j∈is,upd loc i u j=ae:=λj hj=>by
   rw[upd_ne (by rintro rfl;exact hnd.1 hj)];exact hn j (aq _ hj)
  have z:=tq (is:=is) (us:=us) (loc:=upd loc i u) (hp:=hp) hnd.2 hn' h
  show lT (is.map aG) us _ X (upd loc i u) hp
  have mono:∀{is:List Nat}{us:List V}{Q Q':bk→Hp→Prop}{loc:bk}{hp:Hp},(∀l p,Q l p→Q' l p)→lT (is.map aG) us Q X loc hp→lT (is.map aG) us Q' X loc hp:=by
   intro is
   induction is with
   |nil=>intro us Q Q' loc hp k h;cases us with
    |nil=>exact k _ _ h
    |cons=>exact h.elim
   |cons j is ih=>intro us Q Q' loc hp k h;cases us with
    |nil=>exact h.elim
    |cons u us=>exact ih k h
  refine mono (λl p ⟨a,b,c,q⟩=>⟨a,λj w e=>?_,λj hj=>?_,q⟩) z
  ·have:j≠i:=by rintro rfl;rw[hn j (ak)]at e;cases e
   exact b j w (by rw[upd_ne this];exact e)
  ·simp only[am,not_or]at hj
   rw[c j hj.2,upd_ne hj.1]
theorem Tgt.tup{is:List Nat}(hnd:is.Nodup):Tgt is (lS (is.map aG)):=(by rintro v Q X loc hp hn ⟨us,e,h⟩;exact⟨us,e,tq hnd hn h⟩)
inductive Dx(P:dH)(A:aC)(stk:Addr→Prop)(env:Env)(loc:bk)(own:Addr→Prop)(D:Addr)(R:(Addr→Prop)→Heap→Prop)(J:Addr→Prop)(hp1:Hp)(s1:af)(src:Hp→Prop)(St:Nat→Heap→Prop)(vs:List V)(L:List V→List V→Hp→Prop)(n:Nat)(s':af):Prop
 |intro (i:Nat) (acc':List V) (hp':Hp) (hn:n=vs.length+1 - i) (hi:i≤vs.length) (st:St i s'.heap) (ee:Ext (cq own J) (cq stk J) hp1 s1 hp' s') (c:CSt P A (cq stk J) hp' env loc s' D acc') (r:R (Fz (cq stk J) hp') s'.heap) (sm:src hp') (lp:L (vs.drop i) acc' hp'):Dx P A stk env loc own D R J hp1 s1 src St vs L n s'
theorem Gv{P:dH}{A:aC}{stk:Addr→Prop}{env:Env}{loc:bk}{D:Addr}{J:Addr→Prop}{hp:Hp}{s':af}{h2:Heap}{tk:Nat}{acc:List V}{own:Addr→Prop}(c':CSt P A (cq stk J) hp env loc s' D acc)(e3:Ext own (cq stk J) hp s' hp {s' with heap:=h2,toks:=tk})(hLI:¬J env.locals)(hCI:∀n c,env.cells.lookup n=some c→¬J c)(hDI:¬J D)(hal:∀a,J a→∃o,h2.get? a=some o)
 (ky:bW (Fz (cq stk J) hp) (Fz (cq stk J) hp) s'.heap h2)(k2:∀b o,¬J b→s'.heap.get? b=some o→h2.get? b=some o):CSt P A (cq stk J) hp env loc {s' with heap:=h2,toks:=tk} D acc:=by
 refine⟨Dj c'.ev e3 hLI hCI ky k2,Dg c'.ok hal ky k2,c'.stkD,c'.neL,c'.neC,?_⟩
 refine c'.lst.elim λys r1_=>r1_.elim λe2_ r=>e2_.elim λn g=>?_
 exact⟨ys,⟨n,k2 _ _ hDI g⟩,r.keep ky⟩
theorem yg(hd:0<d){elt:Expr}{gens:List cB}{scope:Scope}{pos:Pos}{k:Nat}{t iter:Expr}{ifs:List Expr}{idt ids:List Nat}{Dt:DA}{Df:DT}{inner:CD}(hg:gens[k]?=some ⟨t,iter,ifs,0⟩)(hn1:gens[k+1]?=ae∨∃t' i' f',gens[k+1]?=some ⟨t',i',f',0⟩)
 (ht:SimG P Fl d sc t idt Dt)(htg:Tgt idt Dt)(hf:eM P Fl d sc ifs Df)(hi:SimI P Fl d sc elt gens scope pos (k+1) ids inner)(hdis:∀i∈ids,i∉idt)
 {A:aC}{env:Env}{s0:af}{K:List V→Hp→Prop}{acc:List V}{loc:bk}{hp1:Hp}{stk:Addr→Prop}{D:Addr}(rm:fA d A)(hs:env.scope=sc){v:V}{G:Expr→Prop}(hG:G t){R:(Addr→Prop)→Heap→Prop}{I:Addr}{J Jo:Addr→Prop}{hp0:Hp}{vs:List V}{St:Nat→Heap→Prop}
 (hfr:∀i∈idt++ids,loc i=ae){s1:af}(hI:∀a,J a→¬stk a)(e2:Ext (nv P env (idt++ids) D) stk hp0 s0 hp0 s1)(N:Wen hp0 hp1 s0.heap J Jo)(cp:CSt P A (cq stk J) hp1 env loc s1 D acc)(hL:stk env.locals)(hC:∀n c,env.cells.lookup n=some c→stk c)(hF:Fs A stk s0)(hD:stk D)(W:CM P G R I J Jo vs (same v hp1) St)(st0:St 0 s1.heap)(r0:R (Fz (cq stk J) hp1) s1.heap)(lp0:lQ v hp1 Dt Df inner K vs acc loc hp1):
 codeAny P.M A (.compLoop (.ListComp elt gens scope pos) k (.ref I) (.ref D) env) (λr s'=>match r with| .ok _=>∃hp' acc',Ext (nv P env (idt++ids) D) stk hp0 s0 hp' s'∧CSt P A stk hp' env loc s' D acc'∧K acc' hp'| .error _=>False) s1:=by
 have hLI:¬J env.locals:=λz=>hI _ z hL
 have hCI:∀n c,env.cells.lookup n=some c→¬J c:=λn c p z=>hI c z (hC n c p)
 have hDI:¬J D:=λz=>hI _ z hD
 have hoI:∀a,J a→∀l,¬nu P env l a:=λa q l z=>by
  rcases ownI_E a z with z|⟨n,z⟩
  ·exact hLI (z▸q)
  ·exact hCI n a z q
 suffices key:∀RR:rc→af→Prop,(∀r s' hp' acc',Ext (nv P env (idt++ids) D) stk hp0 s0 hp' s'→CSt P A stk hp' env loc s' D acc'→K acc' hp'→RR (.ok r) s')→codeAny P.M A (.compLoop (.ListComp elt gens scope pos) k (.ref I) (.ref D) env) RR s1 from key _ λw w hp' acc' a b c=>⟨hp',acc',a,b,c⟩
 intro RR hR
 obtain⟨Z,hZ⟩:∃Z:Nat→af→Prop,Z=Dx P A stk env loc (nv P env (idt++ids) D) D R J hp1 s1 (same v hp1) St vs (λus acc hp=>lQ v hp1 Dt Df inner K us acc loc hp):=⟨_,rfl⟩
 refine GF rfl Z ?_ (vs.length+1) (by rw[hZ];exact⟨0,acc,hp1,rfl,bx _,st0,.refl ..,cp,r0,nO v hp1,lp0⟩)
 intro n s' hj
 rw[hZ]at hj
 obtain⟨i,acc',hp',hn',hi',st,ee,c',r',sm,lp⟩:=hj
 show wpAny _ A ((compTurn (.ListComp elt gens scope pos) k (.ref I) (.ref D) env).onRaise (λx=>do noteFrame x env;theTreesLotGoes x)) _ _ s'
 refine GQ ?_
 rw[compTurn_at elt gens scope pos k _ _ env t iter ifs hg hn1]
 refine wpAny_bind (wpAny_standAt (wpAny_bind ?_))
 by_cases hlt:i<vs.length
 ·refine wpAny_mono (W.item A t i s' hp' (cq stk J) (λy=>Mv J s' λh2=>P.VR (cq stk J) hp' h2 vs[i] y∧St (i+1) h2) _ hlt hG (rm.hd hd) st c'.ok r' sm (λw z=>.inr z) λy h2 tk ry st2 k2=>⟨h2,tk,rfl,⟨ry,st2⟩,k2⟩) (λrr s2 hh=>?_) λw w z=>z
  obtain⟨y,rfl,hw⟩:=hh
  refine wpAny_bind (wpAny_mono hw (λw s3 hq=>?_) λw w z=>z)
  obtain⟨h2,tk,rfl,⟨ry,st2⟩,k2⟩:=hq
  have ky:bW (Fz (cq stk J) hp') (Fz (cq stk J) hp') s'.heap h2:=λa o f g=>⟨f,k2 a o (λz=>f.2 (.inr z)) g⟩
  have e3:=Ba (own:=nv P env (idt++ids) D) (stk:=stk) (hp:=hp') (tk:=tk) (W.alive _ _ st2) (W.nd st) k2
  have c3:=Gv c' e3 hLI hCI hDI (W.alive _ _ st2) ky k2
  have r3:R (Fz (cq stk J) hp') h2:=W.rk _ _ _ _ ky r'
  have hdrop:vs.drop i=vs[i]::vs.drop (i+1):=sv hlt
  rw[hdrop,zT]at lp
  refine wpAny_bind (wpAny_mono (ht A env _ _ o8 loc hp' (cq stk J) vs[i] y rm hs c3.ev c3.ok ry (htg _ _ _ _ _ (λi hi=>hfr i (cz _ hi)) lp)) (λw s4 hq=>?_) ?_)
  ·obtain⟨hp4,e4,ok4,loc4,ev4,h4,hle,hoth,q4⟩:=hq
   subst h4
   have e4c:Ext (cq (nv P env (idt++ids) D) J) (cq stk J) hp4 {s' with heap:=h2,toks:=tk} hp4 s4:=e4.wider λb z=>.inl (.inl (je (λi hi=>cz _ hi) b z))
   have ky4:bW (Fz (cq stk J) hp4) (Fz (cq stk J) hp4) h2 s4.heap:=e4.keepy λb z=>c3.ev.own b (ownI_E b z)
   have noown:∀b,¬nu P env idt b→hp4 b=ae→∀o,¬ow o→h2.get? b=some o→s4.heap.get? b=some o:=λb h1 h3 o nd g=>e4.same h3 h1 (.inr nd) g
   have hDno:¬nu P env idt D:=by
    rintro⟨j,_,⟨_,z⟩|⟨_,z⟩⟩
    ·exact cp.neL z
    ·exact cp.neC _ z
   have c4:CSt P A (cq stk J) hp4 env loc4 s4 D acc':=⟨ev4,ok4,c3.stkD,c3.neL,c3.neC,by
    refine c3.lst.elim λys r1_=>r1_.elim λe2_ r=>e2_.elim λn g=>?_
    exact⟨ys,⟨n,noown D hDno (stk_none c3.ok c3.stkD) _ nD_seq g⟩,r.keep ky4⟩⟩
   have st4:St (i+1) s4.heap:=W.frame _ _ _ st2 λb z o g=>noown b (hoI b z _) (stk_none c3.ok (.inr z)) o (W.nd st2 b z o g) g
   have r4:R (Fz (cq stk J) hp4) s4.heap:=W.rk _ _ _ _ ky4 r3
   refine wpAny_bind (wpAny_mono (hf A env s4 _ loc4 hp4 (cq stk J) rm hs ev4 ok4 q4) (λb s5 hq=>?_) λw w z=>z.elim)
   obtain⟨hp5,e5,ok5,q5⟩:=hq
   have c5:=c4.step e5 ok5
   have st5:St (i+1) s5.heap:=W.frame _ _ _ st4 λb z o g=>e5.same (stk_none c4.ok (.inr z)) (λz=>z) (.inr (W.nd st4 b z o g)) g
   have r5:R (Fz (cq stk J) hp5) s5.heap:=W.rk _ _ _ _ (e5.keepy λw z=>z.elim) r4
   have eT:=((ee.trans e3).trans e4c).trans (e5.of1 (own:=cq (nv P env (idt++ids) D) J))
   cases b with
   |false=>
    simp only[cC,if_false]at q5⊢
    exact wpAny_pure ⟨rfl,vs.length+1 - (i+1),hn'.symm▸oM hlt,by rw[hZ];exact⟨i+1,acc',hp5,rfl,hlt,st5,eT,c5.weaken hle,r5,q5.1,q5.2⟩⟩
   |true=>
    simp only[if_true]at q5⊢
    refine wpAny_bind (wpAny_mono (hi A env s5 _ acc' loc4 hp5 (cq stk J) D rm hs c5 (λj hj=>by rw[hoth j (hdis j hj)];exact hfr j (eS _ hj)) q5) (λw s6 hq=>?_) λw w z=>z.elim)
    refine hq.elim λhp6 r1_=>r1_.elim λacc6 r2_=>r2_.elim λe6 r3_=>r3_.elim λc6 q6=>?_
    have e6':Ext (cq (nv P env (idt++ids) D) J) (cq stk J) hp5 s5 hp6 s6:=e6.wider λb z=>.inl (z.elim (λz=>.inl (je (λi hi=>eS _ hi) b z)) .inr)
    have hIno:∀a,J a→¬nv P env ids D a:=by
     rintro a q (z|z)
     ·exact hoI a q _ z
     ·exact hDI (z▸q)
    have st6:St (i+1) s6.heap:=W.frame _ _ _ st5 λb z o g=>e6.same (stk_none c5.ok (.inr z)) (hIno b z) (.inr (W.nd st5 b z o g)) g
    have r6:R (Fz (cq stk J) hp6) s6.heap:=W.rk _ _ _ _ (e6.keepy c5.own) r5
    exact wpAny_pure ⟨rfl,vs.length+1 - (i+1),hn'.symm▸oM hlt,by rw[hZ];exact⟨i+1,acc6,hp6,rfl,hlt,st6,eT.trans e6',c6.weaken hle,r6,q6.1,q6.2⟩⟩
  ·rintro e s'' ⟨_,_,_,k,l,_,hx,_⟩
   exact hx.elim
 ·have hin:i=vs.length:=fR hi' (bZ hlt)
  rw[hin]at st lp
  refine wpAny_mono (W.done A s' hp' (cq stk J) (Mv J s' λh2=>∀a,Jo a→∃o,h2.get? a=some o) _ (rm.hd hd) st c'.ok r' sm (λw z=>.inr z) λh2 tk k2 al=>⟨h2,tk,rfl,al,k2⟩) (λrr s2 hh=>?_) λw w z=>z
  obtain⟨rfl,h2,tk,rfl,al,k2⟩:=hh
  rw[o6,cLpN]at lp
  obtain⟨ex,okx,evx⟩:=leaveI (env:=env) (loc:=loc) (tk:=tk) e2 N ee hI c'.ok al k2
  refine wpAny_pure (hR _ _ hp' acc' ex ⟨evx hL hC hF c'.ev,okx,hD,cp.neL,cp.neC,?_⟩ lp)
  refine c'.lst.elim λys r1_=>r1_.elim λe2_ r=>e2_.elim λn g=>?_
  exact⟨ys,⟨n,k2 _ _ hDI g⟩,r.keep λa o f g=>⟨⟨f.1,λz=>f.2 (.inl z)⟩,k2 a o (λq=>f.2 (.inr q)) g⟩⟩
end Mine
namespace Mine
variable{P:dH}{Fl:iq}{d:Nat}{sc:Scope}
theorem u8{elt:Expr}{gens:List cB}{scope:Scope}{pos:Pos}{k:Nat}{t iter:Expr}{ifs:List Expr}(hg:gens[k]?=some ⟨t,iter,ifs,0⟩){A:aC}{env:Env}{s:af}{I:Addr}{acc:Value}{G:af→Prop}
 (hself:∀(Q:Value→af→Prop) E,Q (.ref I) s→wpAny P.M A (pyIter (.ref I)) Q E s)
 (h:codeAny P.M A (.compLoop (.ListComp elt gens scope pos) k (.ref I) acc env) (λr s'=>match r with| .ok _=>G s'| .error _=>False) s):
 codeAny P.M A (.compStart (.ListComp elt gens scope pos) k (.ref I) acc env) (λr s'=>match r with| .ok _=>G s'| .error _=>False) s:=by
 refine Ei ?_
 show wpAny _ _ ((compStart (.ListComp elt gens scope pos) k (.ref I) acc env).onRaise (λx=>do noteFrame x env;standAt theWindowsPlace)) _ _ s
 refine wpAny_notedAt ?_
 rw[compStart_at elt gens scope pos k _ _ env t iter ifs hg]
 refine wpAny_bind (DW (wpAny_ite ?_))
 split
 ·exact wpAny_pure (Gg rfl h)
 ·exact wpAny_bind (wpAny_rule (wpAny_bind (wpAny_standAt (wpAny_bind (hself _ _ (wpAny_pure (Gg rfl h)))))))
theorem SimI.genG(hd:0<d){elt:Expr}{gens:List cB}{scope:Scope}{pos:Pos}{k:Nat}{t iter:Expr}{ifs:List Expr}{idt ids:List Nat}{De:DE}{Dt:DA}{Df:DT}{inner:CD}{G:Expr→Prop}(hG:G t)(hg:gens[k]?=some ⟨t,iter,ifs,0⟩)(hn1:gens[k+1]?=ae∨∃t' i' f',gens[k+1]?=some ⟨t',i',f',0⟩)
 (he:bU P Fl d sc iter De)(ht:SimG P Fl d sc t idt Dt)(htg:Tgt idt Dt)(hf:eM P Fl d sc ifs Df)(hi:SimI P Fl d sc elt gens scope pos (k+1) ids inner)(hdis:∀i∈ids,i∉idt)(hfs:∀env x,foldedSetIterable iter env x=pure x)
 {Qe:(List V→Hp→Prop)→List V→bk→V→Hp→Prop}(hQe:∀K acc loc v hp1,Qe K acc loc v hp1→∃vs hpL u,Its P v vs hp1 hpL G (same u hpL)∧lQ u hpL Dt Df inner K vs acc loc hpL):
 SimI P Fl d sc elt gens scope pos k (idt++ids) (λK acc loc hp=>De (Qe K acc loc) noXA loc hp):=by
 intro A env s K acc loc hp stk D rm hs c hfr hD
 unfold innerSem
 rw[hg]
 refine wpAny_bind (wpAny_mono (he A env s _ noXA loc hp stk rm hs c.ev c.ok hD) (λx s1 hq=>?_) nP)
 obtain⟨hp1,e1,ok1,v,hq,r⟩:=hq
 obtain⟨vs,hpL,u,hv,lp⟩:=hQe _ _ _ _ _ hq
 refine wpAny_bind (wpAny_standAt ?_)
 show wpAny P.M A (foldedSetIterable iter env x>>= λx=>holding [x] (pyIter x)>>= λit=>runOwn (.compStart (.ListComp elt gens scope pos) k it (.ref D) env) env>>= λy=>pure ()) _ _ s1
 rw[hfs env x]
 refine wpAny_bind (wpAny_pure (wpAny_bind (wpAny_holding ?_)))
 refine hv A s1 stk x _ _ (rm.hd hd) ok1 r λI J Jo R St h' N kp W st0 r0=>?_
 have c1:=c.step e1 ok1
 have hI:∀a,J a→¬stk a:=λa z=>N.notStk ok1 z
 have cp:CSt P A (cq stk J) hpL env loc {s1 with heap:=h'} D acc:=⟨ub (tk:=s1.toks) c1.ev N kp,t7 (tk:=s1.toks) ok1 N kp (W.alive 0 _ st0),.inl c1.stkD,c1.neL,c1.neC,(by obtain⟨ys,⟨n,g⟩,r⟩:=c1.lst;exact⟨ys,⟨n,kp _ _ g⟩,r.keep (fzPlus N kp)⟩)⟩
 refine wpAny_bind (wpAny_runOwn (mq (u8 (P:=P) hg (λQ E q=>W.self A 0 _ Q E st0 q) (yg hd hg hn1 ht htg hf hi hdis rm hs hG hfr hI (Ext.grow (stk:=stk) (tk:=s1.toks) kp) N cp c1.ev.stkL c1.ev.stkC c1.ev.frs c1.stkD W st0 (W.rk _ _ _ _ (fzPlus N kp) r0) lp)) λrr s' hr=>?_))
 cases rr with
 |ok f=>
  obtain⟨hp',acc',e,cc,q⟩:=hr
  exact wpAny_pure ⟨hp',acc',e1.of1.trans e,cc,q⟩
 |error e=>exact hr.elim
theorem SimI.gen(hz:(P.H₀.get? sysModules).isSome=true)(hd:0<d){elt:Expr}{gens:List cB}{scope:Scope}{pos:Pos}{k:Nat}{t iter:Expr}{ifs:List Expr}{idt ids:List Nat}{De:DE}{Dt:DA}{Df:DT}{inner:CD}(hg:gens[k]?=some ⟨t,iter,ifs,0⟩)(hn1:gens[k+1]?=ae∨∃t' i' f',gens[k+1]?=some ⟨t',i',f',0⟩)
 (he:bU P Fl d sc iter De)(ht:SimG P Fl d sc t idt Dt)(htg:Tgt idt Dt)(hf:eM P Fl d sc ifs Df)(hi:SimI P Fl d sc elt gens scope pos (k+1) ids inner)(hdis:∀i∈ids,i∉idt)(hfs:∀env x,foldedSetIterable iter env x=pure x):
 SimI P Fl d sc elt gens scope pos k (idt++ids) (qe De Dt Df inner):=
 SimI.genG (G:=λz=>True) hd trivial hg hn1 he ht htg hf hi hdis hfs (Qe:=λK acc loc v hp1=>∃vs,eh hp1 v=some vs∧lQ v hp1 Dt Df inner K vs acc loc hp1) λK acc loc v hp1 h=>by obtain⟨vs,hv,lp⟩:=h;exact⟨vs,hp1,v,its_of hz hv,lp⟩
noncomputable def closL(cells:List (Str×Addr)):List (Str×NameKind)→List (Str×Addr)→List (Str×Addr)
 | [],cs=>cs
 |(n,k)::r,cs=>closL cells r (if k== .free then(match cells.lookup n with|some c=>(n,c)::cs|ae=>cs)else cs)
theorem jX{scope:Scope}{env:Env}(h:∀n k,(n,k)∈scope.names→k= .free→∃c,env.cells.lookup n=some c):closureFor scope env=pure (closL env.cells scope.names []):=by
 unfold closureFor
 have key:∀(l:List (Str×NameKind))(cs:List (Str×Addr)),(∀n k,(n,k)∈l→k= .free→∃c,env.cells.lookup n=some c)→
  (forIn l cs λx r=>(match x with|(name,kind)=>if(kind==b6)=true then do let a←cellOf env name;pure (gG ((name,a)::r))else pure (gG r):Sem (ForInStep (List (Str×Addr)))))=(pure (closL env.cells l cs):Sem (List (Str×Addr))):=by
  intro l
  induction l with
  |nil=>intro cs _;rfl
  |cons x l ih=>
   obtain⟨n,k⟩:=x
   intro cs hl
   have ih':=λcs=>ih cs λn k m=>hl n k (aq _ m)
   rw[p6]
   unfold closL
   cases hk:k==b6 with
   |false=>
    simp only[hk,cC,if_false,pure_bind]
    exact ih' cs
   |true=>
    have hk':k= .free:=by simpa using hk
    refine(hl n k ak hk').elim λc hc=>?_
    simp only[hk,if_true,cellOf,hc,pure_bind]
    exact ih' _
 have:=key scope.names [] h
 simp only[this,pure_bind]
theorem jf{α:Type}{n m:Str}{v:α}{l:List (Str×α)}(h:n≠m):j9 n ((m,v)::l)=j9 n l:=by
 rw[eG]
 cases q:n==m with
 |false=>rfl
 |true=>exact absurd (by simpa using q) h
theorem jg{α:Type}{n:Str}{v:α}{l:List (Str×α)}:j9 n ((n,v)::l)=some v:=by simp[eG]
theorem closL_lookup{cells:List (Str×Addr)}:∀(l:List (Str×NameKind))(cs:List (Str×Addr))(n:Str),(l.map (·.1)).Nodup→(∀n k,(n,k)∈l→k= .free→∃c,cells.lookup n=some c)→
 (closL cells l cs).lookup n=(if(n,b6)∈l then cells.lookup n else cs.lookup n):=by
 intro xs_
 induction xs_ with
 |nil=>
  intro cs n _ _
  simp[closL]
 |cons e_ l ih=>
  obtain⟨m,k⟩:=e_
  intro cs n hnd hc
  rw[ar,aP]at hnd
  unfold closL
  rw[ih _ n hnd.2 λa b c=>hc a b (aq _ c)]
  by_cases h1:(n,b6)∈l
  ·rw[if_pos h1,if_pos (aq _ h1)]
  ·rw[if_neg h1]
   by_cases h2:m=n∧k=b6
   ·obtain⟨rfl,rfl⟩:=h2
    rw[if_pos ak]
    refine(hc m .free ak rfl).elim λc e=>?_
    rw[e]
    exact jg
   ·have h3:¬(n,b6)∈(m,k)::l:=by
     intro z
     rcases am.mp z with z|z
     ·refine(eX z).elim λz1 z2=>?_;exact h2 ⟨z1.symm,z2.symm⟩
     ·exact h1 z
    rw[if_neg h3]
    cases hk:k==b6 with
    |false=>rfl
    |true=>
     have hk':k= .free:=by simpa using hk
     refine(hc m k ak hk').elim λc e=>?_
     have:n≠m:=λz=>h2 ⟨z.symm,hk'⟩
     rw[if_pos rfl,e]
     exact jf this
theorem cellsFrom_other:∀(l:List (Str×NameKind))(b:Nat)(cl:List (Str×Addr))(n:Str),(n,a9)∉l→(cellsFrom b l cl).lookup n=cl.lookup n:=by
 intro xs_
 induction xs_ with
 |nil=>
  intro b cl n _
  exact rfl
 |cons e_ l ih=>
  obtain⟨m,k⟩:=e_
  intro b cl n h
  have h1:(n,a9)∉l:=λz=>h (aq _ z)
  unfold cellsFrom
  cases hk:k==a9 with
  |false=>rw[if_neg (by simp)];exact ih b cl n h1
  |true=>
   have hk':k= .cell:=by simpa using hk
   rw[if_pos rfl,ih (b+1) _ n h1]
   exact jf λz=>h (by rw[z,hk'];exact ak)
theorem qo:∀(l:List (Str×NameKind))(h:Heap)(c:Nat),h.objs.size≤c→c<(pushCells h l).objs.size→(pushCells h l).IsCell c ae:=by
 intro xs_
 induction xs_ with
 |nil=>
  intro h c h1 h2
  exact absurd (bM h1 h2) (dh _)
 |cons e_ l ih=>
  obtain⟨m,k⟩:=e_
  intro h c h1 h2
  unfold pushCells at h2⊢
  cases hk:k==a9 with
  |false=>
   rw[hk,if_neg (by simp)]at h2
   rw[if_neg (by simp)]
   exact ih h c h1 h2
  |true=>
   rw[hk,if_pos rfl]at h2
   rw[if_pos rfl]
   by_cases q:c=h.objs.size
   ·subst q
    exact⟨_,Eh _ _ _ _ (aw _ rfl),rfl⟩
   ·exact ih _ c (by rw[c9];exact eQ h1 (aS q)) h2
noncomputable def nCells(l:List (Str×NameKind)):Nat:=match l with
 | []=>0
 |(_,k)::l=>(if k==a9 then 1 else 0)+nCells l
theorem pS:∀(l:List (Str×NameKind))(h:Heap),(pushCells h l).objs.size=h.objs.size+nCells l:=by
 intro xs_
 induction xs_ with
 |nil=>
  intro h
  exact rfl
 |cons e_ l ih=>
  obtain⟨m,k⟩:=e_
  intro h
  unfold pushCells nCells
  cases hk:k==a9 with
  |false=>rw[if_neg (by simp),if_neg (by simp),ih h,bH]
  |true=>rw[if_pos rfl,if_pos rfl,ih _,c9,bK]
theorem cellsFrom_bound:∀(l:List (Str×NameKind))(b:Nat)(cl:List (Str×Addr))(n:Str),(n,a9)∈l→∃c:Nat,(cellsFrom b l cl).lookup n=some c∧b≤c∧c<b+nCells l:=by
 intro xs_
 induction xs_ with
 |nil=>
  intro b cl n h
  exact(nomatch h)
 |cons e_ l ih=>
  obtain⟨m,k⟩:=e_
  intro b cl n h
  unfold cellsFrom nCells
  cases hk:k==a9 with
  |false=>
   rw[if_neg (by simp),if_neg (by simp),bH]
   have ne:(n,a9)≠(m,k):=by intro e;refine(eX e).elim λy z=>?_;rw[←z]at hk;simp at hk
   exact ih b cl n ((am.mp h).resolve_left ne)
  |true=>
   rw[if_pos rfl,if_pos rfl]
   by_cases h1:(n,a9)∈l
   ·obtain⟨c,a,b',c'⟩:=ih (b+1) ((m,b)::cl) n h1
    exact⟨c,a,by lia,by lia⟩
   ·have e:=(am.mp h).resolve_right h1
    refine(eX e).elim λz y=>?_
    refine⟨b,?_,b8 _,by lia⟩
    rw[cellsFrom_other l (b+1) _ n h1,z]
    exact jg
end Mine
namespace Mine
variable{P:dH}{Fl:iq}{d:Nat}{sc:Scope}
noncomputable def jR(scope sc:Scope):Scope:=
 {scope with names:=scope.names.map λ(n,k)=>if(k== .free&&sc.kind== .function&&sc.names.lookup n==some .cell)then(n,.cell)else(n,k)}
theorem mv(scope:Scope)(env:Env):relabel scope env=jR scope env.scope:=rfl
noncomputable def relK(sc:Scope)(n:Str)(k:NameKind):NameKind:=if(k== .free&&sc.kind== .function&&sc.names.lookup n==some .cell)then .cell else k
theorem oj(scope sc:Scope)(n:Str):(jR scope sc).names.lookup n=(scope.names.lookup n).map (relK sc n):=by
 unfold jR
 simp only
 induction scope.names with
 |nil=>rfl
 |cons x l ih=>
  obtain⟨m,k⟩:=x
  rw[ar]
  by_cases h:n=m
  ·subst h
   by_cases hc:(k==b6&&sc.kind== .function&&sc.names.lookup n==some .cell)=true
   ·simp only[hc,if_true,jg,dE,relK]
   ·simp only[hc,if_false,jg,dE,relK]
    simp
  ·rw[jf h]
   by_cases hc:(k==b6&&sc.kind== .function&&sc.names.lookup m==some .cell)=true
   ·simp only[hc,if_true,jf h,ih]
   ·simp only[hc,if_false,ih]
    rw[←ih]
    exact jf h
theorem mem_of_lookup'{l:List (Str×NameKind)}{n:Str}{k:NameKind}(h:l.lookup n=some k):(n,k)∈l:=mem_of_lookup h
theorem jW:∀{l:List (Str×NameKind)}{n:Str}{k:NameKind},(l.map (·.1)).Nodup→(n,k)∈l→l.lookup n=some k:=by
 intro xs_
 induction xs_ with
 |nil=>
  intro _ _ _ h
  exact(nomatch h)
 |cons e_ l ih=>
  obtain⟨m,j⟩:=e_
  intro n k hnd h
  rw[ar,aP]at hnd
  rcases am.mp h with h'|h'
  ·refine(eX h').elim λa b=>?_;subst a b;exact jg
  ·have:n≠m:=λz=>hnd.1 (ay.mpr ⟨(n,k),h',z⟩)
   rw[jf this];exact ih hnd.2 h'
theorem cellsFrom_inj:∀(l:List (Str×NameKind))(b:Nat)(cl:List (Str×Addr))(n n':Str)(c:Addr),(l.map (·.1)).Nodup→(n,a9)∈l→(n',a9)∈l→(cellsFrom b l cl).lookup n=some c→(cellsFrom b l cl).lookup n'=some c→n=n':=by
 intro xs_
 induction xs_ with
 |nil=>
  intro _ _ _ _ _ _ h _ _ _
  exact(nomatch h)
 |cons e_ l ih=>
  obtain⟨m,k⟩:=e_
  intro b cl n n' c hnd h h' e e'
  rw[ar,aP]at hnd
  unfold cellsFrom at e e'
  have nm:∀x,(x,a9)∈l→x≠m:=λx hx z=>hnd.1 (ay.mpr ⟨_,hx,z⟩)
  cases hk:k==a9 with
  |false=>
   rw[hk,if_neg (by simp)]at e e'
   have ne:∀x,(x,a9)≠(m,k):=by intro x z;refine(eX z).elim λy z=>?_;rw[←z]at hk;simp at hk
   exact ih b cl n n' c hnd.2 ((am.mp h).resolve_left (ne n)) ((am.mp h').resolve_left (ne n')) e e'
  |true=>
   rw[hk,if_pos rfl]at e e'
   have own:∀x,(x,a9)∈l→(cellsFrom (b+1) l ((m,b)::cl)).lookup x=some c→b+1≤c:=λx hx ex=>by
    obtain⟨c2,e2,h2,_⟩:=cellsFrom_bound l (b+1) ((m,b)::cl) x hx
    rw[ex]at e2;cases e2;exact h2
   have top:∀x,(x,a9)∉l→(x,a9)∈(m,k)::l→(cellsFrom (b+1) l ((m,b)::cl)).lookup x=some c→x=m∧c=b:=λx hx hm ex=>by
    have z:=(eX ((am.mp hm).resolve_right hx)).1
    subst z
    rw[cellsFrom_other l (b+1) _ x hx,jg]at ex
    cases ex;exact⟨rfl,rfl⟩
   by_cases h1:(n,a9)∈l<;>by_cases h2:(n',a9)∈l
   ·exact ih (b+1) _ n n' c hnd.2 h1 h2 e e'
   ·have a1:=own n h1 e;have a2:=(top n' h2 h' e').2;rw[a2]at a1;exact absurd a1 (fe _)
   ·have a1:=own n' h2 e';have a2:=(top n h1 h e).2;rw[a2]at a1;exact absurd a1 (fe _)
   ·rw[(top n h1 h e).1,(top n' h2 h' e').1]
noncomputable def ic(scope:Scope)(cl:List (Str×Addr))(L:Addr)(env:Env):Env:=
 {scope:=scope,locals:=L,globals:=env.globals,cells:=cellsFrom (L+1) scope.names cl,qual:=env.qual,func:=none,code:=env.code,frame:=env.frame,builtins:=env.builtins}
theorem uF{A:aC}{env:Env}{s:af}{scope:Scope}{cl:List (Str×Addr)}{Q:Env→af→Prop}{E:Value→af→Prop}
 (h:Q (ic scope cl s.heap.objs.size env) {s with heap:=pushCells (s.heap.push {cls:=.type "dict",data:=.dict #[]}) scope.names}):
 wpAny P.M A (newFunctionEnv scope env.globals cl [] env.qual none .none (some env)) Q E s:=by
 simp only[newFunctionEnv,Option.isSome_some,if_true]
 refine wpAny_bind (wpAny_alloc ?_)
 refine wpAny_bind (wpAny_layCells _ (λname kind cells=>by cases hkc:kind==a9<;>simp[hkc]) _ _ _ _ ?_)
 rw[show({s with heap:=s.heap.push {cls:=.type "dict",data:=.dict #[]}}:af).heap.objs.size=s.heap.objs.size+1 from c9 ..]
 exact wpAny_bind (wpAny_pure (wpAny_pure h))
noncomputable def keepL(fr:List Nat)(loc:bk):bk:=λi=>if i∈fr then loc i else ae
theorem wF{A:aC}{stk stk':Addr→Prop}{hp:Hp}{env:Env}{loc:bk}{s:af}{scope:Scope}{fr:List Nat}{L:Addr}{H:Heap}(ev:EnvOk P A stk hp env loc s)(hk:scope.kind= .function)(hnd:(scope.names.map (·.1)).Nodup)
 (hfr:∀i∈fr,scope.names.lookup (P.nm i)=some .free)(hout:∀n,(n,b6)∈scope.names→env.kindOf n=some .cell∨env.kindOf n=some .free)
 (kp:∀b o,s.heap.get? b=some o→H.get? b=some o)(hL0:∀c o,s.heap.get? c=some o→c<L)(hNs:H.Ns L λ_=>ae)(hnew:∀c,L+1≤c→c<L+1+nCells scope.names→H.IsCell c ae∧stk' c)
 (ky:bW (Fz stk hp) (Fz stk' hp) s.heap H)(hsub:∀a,stk a→stk' a)(hLs:stk' L){tk:Nat}:
 EnvOk P A stk' hp {ic scope (closL env.cells scope.names []) L env with scope:=relabel scope env} (keepL fr loc) {s with heap:=H,toks:=tk}:=by
 have hcl:∀n k,(n,k)∈scope.names→k= .free→∃c,env.cells.lookup n=some c:=λn k h1 h2=>by
  subst h2
  obtain⟨c,_,e,_⟩:=ev.cells n (hout n h1)
  exact⟨c,e⟩
 have kindE:∀n,Fp {ic scope (closL env.cells scope.names []) L env with scope:=relabel scope env} n=(scope.names.lookup n).map (relK env.scope n):=λn=>by
  show(relabel scope env).names.lookup n=_
  rw[mv,oj]
 have free_cells:∀n,(n,b6)∈scope.names→(cellsFrom (L+1) scope.names (closL env.cells scope.names [])).lookup n=env.cells.lookup n:=λn h=>by
  have h1:(n,a9)∉scope.names:=λz=>by have a:=jW hnd h;rw[jW hnd z]at a;cases a
  rw[cellsFrom_other _ _ _ _ h1,closL_lookup _ _ _ hnd hcl,if_pos h]
 have lookup_cases:∀n c,(cellsFrom (L+1) scope.names (closL env.cells scope.names [])).lookup n=some c→((n,a9)∈scope.names∧L+1≤c∧c<L+1+nCells scope.names)∨(env.cells.lookup n=some c∧(n,b6)∈scope.names):=λn c e=>by
  by_cases h1:(n,a9)∈scope.names
  ·obtain⟨c2,e2,a,b⟩:=cellsFrom_bound scope.names (L+1) (closL env.cells scope.names []) n h1
   rw[e]at e2;cases e2;exact .inl ⟨h1,a,b⟩
  ·rw[cellsFrom_other _ _ _ _ h1,closL_lookup _ _ _ hnd hcl]at e
   by_cases h2:(n,b6)∈scope.names
   ·rw[if_pos h2]at e;exact .inr ⟨e,h2⟩
   ·rw[if_neg h2]at e;cases e
 have old_lt:∀n c,env.cells.lookup n=some c→(env.kindOf n=some .cell∨env.kindOf n=some .free)→c<L:=λn c e k=>by
  obtain⟨c2,x,e2,⟨o,g,_⟩⟩:=ev.cells n k
  rw[e]at e2;cases e2;exact hL0 _ _ g
 refine⟨hk,ev.glob,ev.blt,⟨_,hNs,λi v h k=>?_⟩,λi v h k=>?_,hLs,λn c e=>?_,λn k=>?_,λn n' c e e'=>?_,λn e=>?_,ev.frs.up hsub λb o _ g d=>⟨o,kp b o g,d⟩,ev.top⟩
 ·exfalso
  unfold keepL at h
  split at h
  ·rename_i hi
   rw[kindE,hfr i hi]at k
   simp only[dE,eJ,relK]at k
   split at k<;>cases k
  ·cases h
 ·unfold keepL at h
  split at h
  ·rename_i hi
   have hm:=mem_of_lookup' (hfr i hi)
   obtain⟨c,x,e,g,r⟩:=ev.cell i v h (hout _ hm)
   exact⟨c,x,(free_cells _ hm).trans e,g.keeps kp,r.keep ky⟩
  ·cases h
 ·rcases lookup_cases n c e with⟨_,a,b⟩|⟨e2,_⟩
  ·exact(hnew c a b).2
  ·exact hsub c (ev.stkC n c e2)
 ·have:(n,a9)∈scope.names∨(n,b6)∈scope.names:=by
   rw[kindE]at k
   cases q:scope.names.lookup n with
   |none=>rw[q]at k;rcases k with k|k<;>cases k
   |some kk=>
    rw[q]at k
    have hm:=mem_of_lookup' q
    cases kk with
    |cell=>exact .inl hm
    |free=>exact .inr hm
    |_=>rcases k with k|k<;>simp[relK]at k
  rcases this with h1|h1
  ·obtain⟨c,e,a,b⟩:=cellsFrom_bound scope.names (L+1) (closL env.cells scope.names []) n h1
   exact⟨c,_,e,(hnew c a b).1⟩
  ·obtain⟨c,x,e,g⟩:=ev.cells n (hout n h1)
   exact⟨c,x,(free_cells n h1).trans e,g.keeps kp⟩
 ·rcases lookup_cases n c e with⟨h1,a,b⟩|⟨e2,h2⟩<;>rcases lookup_cases n' c e' with⟨h1',a',b'⟩|⟨e2',h2'⟩
  ·exact cellsFrom_inj _ _ _ _ _ _ hnd h1 h1' e e'
  ·exact absurd (old_lt n' c e2' (hout n' h2')) (fN.mpr (cw a))
  ·exact absurd (old_lt n c e2 (hout n h2)) (fN.mpr (cw a'))
  ·exact ev.apart n n' c e2 e2'
 ·rcases lookup_cases n L e with⟨_,a,_⟩|⟨e2,h2⟩
  ·exact absurd a (fe _)
  ·exact absurd (old_lt n L e2 (hout n h2)) (dh _)
theorem Ext.to1{own stk stk':Addr→Prop}{hp hp':Hp}{s s':af}(e:Ext own stk' hp s hp' s')(h:∀b,own b→s.heap.get? b=ae)(hs:∀b,stk' b→stk b∨s.heap.get? b=ae)(sub:∀b,stk b→stk' b):Ext no1 stk hp s hp' s':=by
 refine⟨λb o a y g=>?_,e.there,λb o st g d=>e.dic b o (sub b st) g d,e.fresh,e.drawn,e.os⟩
 rcases e.keep b o a (λz=>by rw[h b z]at g;cases g) g with q|⟨z,d,sl,q⟩
 ·exact .inl q
 ·rcases hs b z with z|z
  ·exact .inr ⟨z,d,sl,q⟩
  ·rw[z]at g;cases g
theorem Ext.more{own stk stk':Addr→Prop}{hp hp':Hp}{s s':af}(e:Ext own stk hp s hp' s')(h:∀b,stk b→stk' b)(h2:∀b,stk' b→stk b∨s.heap.get? b=ae):Ext own stk' hp s hp' s':=by
 refine⟨λb o a n g=>(e.keep b o a n g).imp id (by rintro⟨z,r⟩;exact⟨h b z,r⟩),e.there,λb o st g d=>?_,e.fresh,e.drawn,e.os⟩
 rcases h2 b st with z|z
 ·exact e.dic b o z g d
 ·rw[z]at g;cases g
theorem Ext.dataOf{own stk:Addr→Prop}{hp hp':Hp}{s s':af}(e:Ext own stk hp s hp' s'){b:Addr}{o:Obj}(a:hp b=ae)(n:¬own b)(g:s.heap.get? b=some o):∃o',s'.heap.get? b=some o'∧o'.data=o.data:=by
 rcases e.keep b o a n g with q|⟨_,_,sl,q⟩
 ·exact⟨o,q,rfl⟩
 ·exact⟨_,q,rfl⟩
theorem HeapOk.sub{stk stk':Addr→Prop}{hp:Hp}{s:af}(ok:HeapOk P stk' hp s)(h:∀a,stk a→stk' a):HeapOk P stk hp s:=
 ⟨λa o e=>(ok.obj a o e).keep (λa o f g=>⟨⟨f.1,λz=>f.2 (h a z)⟩,g⟩) (λo g=>g),λa e z=>ok.apart a e (h a z),ok.base,ok.new,λa z=>ok.stkn a (h a z),λa z=>ok.stkl a (h a z),ok.gens⟩
theorem xP{stk:Addr→Prop}{hp:Hp}{s:af}(ok:HeapOk P stk hp s){H:Heap}{tk:Nat}{N:Addr→Prop}(hn:∀a,N a→s.heap.get? a=ae)(hH:∀a,N a→∃o,H.get? a=some o)(k:∀b o,s.heap.get? b=some o→H.get? b=some o):
 HeapOk P (λa=>stk a∨N a) hp {s with heap:=H,toks:=tk}∧bW (Fz stk hp) (Fz (λa=>stk a∨N a) hp) s.heap H:=by
 have ky:bW (Fz stk hp) (Fz (λa=>stk a∨N a) hp) s.heap H:=by
  intro a o i1_ g;refine i1_.elim λe n=>?_
  refine⟨⟨e,?_⟩,k a o g⟩
  rintro(z|z)
  ·exact n z
  ·rw[hn a z]at g;cases g
 refine⟨⟨λa o e=>(ok.obj a o e).keep ky (λo g=>k a o g),λa e=>?_,λb o e=>k b o (ok.base b o e),ok.new,λa z=>?_,λa z=>?_,ok.gens⟩,ky⟩
 ·rintro(z|z)
  ·exact ok.apart a e z
  ·exact e (fz_of_new ok (hn a z)).1
 ·rcases z with z|z
  ·exact ok.stkn a z
  ·cases g:P.H₀.get? a with
   |none=>rfl
   |some o=>have:=ok.base a o g;rw[hn a z]at this;cases this
 ·rcases z with z|z
  ·refine(ok.stkl a z).elim λo e=>?_;exact⟨o,k a o e⟩
  ·exact hH a z
structure bi(P:dH)(scope sc:Scope)(fr ids:List Nat):Prop where
 kind:scope.kind= .function
 nodup:(scope.names.map (·.1)).Nodup
 free:∀i∈fr,scope.names.lookup (P.nm i)=some .free
 out:∀n,(n,b6)∈scope.names→sc.names.lookup n=some .cell∨sc.names.lookup n=some .free
 own:∀i∈ids,scope.names.lookup (P.nm i)=some .local∨scope.names.lookup (P.nm i)=some .cell
structure mS(P:dH)(stk:Addr→Prop)(hp hp':Hp)(s s':af)(D C:Addr)(acc:List V):Prop where
 ext:Ext no1 stk hp s hp' s'
 dif:D≠C
 fD:s.heap.get? D=ae
 all:∃stkN:Addr→Prop,(∀a,stk a→stkN a)∧HeapOk P stkN hp' s'∧stkN D∧stkN C∧¬stk D∧¬stk C∧s.heap.get? C=ae∧(∃m,s'.heap.Ns C m)∧∃ys,s'.heap.PlainList D ys∧P.VRs stkN hp' s'.heap acc ys.toList
set_option tactic.hygienic true in
theorem nX{G:Expr→Prop}(hd:0<d){elt:Expr}{gens:List cB}{scope:Scope}{pos:Pos}{t iter:Expr}{ifs:List Expr}{idt ids fr:List Nat}{De:DE}{Dt:DA}{Df:DT}{inner:CD}(hG:G t)(hg:gens[0]?=some ⟨t,iter,ifs,0⟩)(hn1:gens[1]?=ae∨∃t' i' f',gens[1]?=some ⟨t',i',f',0⟩)
 (F:bi P scope sc fr (idt++ids))
 (he:bU P Fl d sc iter De)(ht:SimG P Fl d (jR scope sc) t idt Dt)(htg:Tgt idt Dt)(hf:eM P Fl d (jR scope sc) ifs Df)(hi:SimI P Fl d (jR scope sc) elt gens scope pos 1 ids inner)(hdis:∀i∈ids,i∉idt)
 {A:aC}{env:Env}{s:af}{K:List V→Hp→Prop}{X:XA}{loc:bk}{hp:Hp}{stk:Addr→Prop}{RR:Value→Addr→rc→af→Prop}{E:Value→af→Prop}(rm:fA d A)(hs:env.scope=sc)(ev:EnvOk P A stk hp env loc s)(ok:HeapOk P stk hp s)
 {Qe:V→Hp→Prop}(hQe:∀v hp1,Qe v hp1→∃vs hpL u,Its P v vs hp1 hpL G (same u hpL)∧lQ u hpL Dt Df inner K vs [] (keepL fr loc) hpL)(hD:De Qe X loc hp)
 (hX:∀e s',PostT P no1 stk hp s (lX Fl X) e s'→E e s')
 (hRR:∀D C hp' acc f s',mS P stk hp hp' s s' D C acc→K acc hp'→RR (.ref D) C (.ok f) s'):
 wpAny P.M A (eval iter env) (λx s₁=>wpAny P.M A (pyIter x) (λit s₂=>wpAny P.M A (newList []) (λacc s₃=>wpAny P.M A (newFunctionEnv scope env.globals (closL env.cells scope.names []) [] env.qual none .none (some env)) (λcenv s₄=>
  codeAny P.M A (.compStart (.ListComp elt gens scope pos) 0 it acc {cenv with scope:=relabel scope env}) (RR acc cenv.locals) s₄) E s₃) E s₂) E s₁) E s:=by
 refine wpAny_mono (he A env s _ X loc hp stk rm hs ev ok hD) (λx s1 hq=>?_) hX
 obtain⟨hp1,e1,ok1,v,hq,r⟩:=hq
 refine(hQe _ _ hq).elim λvs r1_=>r1_.elim λhpL r2_=>r2_.elim λu r3_=>r3_.elim λhv lp=>?_
 have ev1:=ev.step ok e1
 refine hv A s1 stk x _ _ (rm.hd hd) ok1 r λI J Jo R St h2 N0 kp W st0 r0=>?_
 refine d6 (uF ?_)
 dsimp only
 generalize hH3:h2.push {cls:=.type "list",dict:=none,data:=.seq ([]:List Value).toArray}=H3
 have sz3:H3.objs.size=h2.objs.size+1:=by rw[←hH3,c9]
 have hsz1:∀c o,s1.heap.get? c=some o→c<h2.objs.size:=λc o g=>bJ (kp c o g)
 generalize hH4:H3.push {cls:=.type "dict",dict:=none,data:=.dict #[]}=H4
 have sz4:H4.objs.size=H3.objs.size+1:=by rw[←hH4,c9]
 generalize hH5:pushCells H4 scope.names=H5
 have sz5:H5.objs.size=H4.objs.size+nCells scope.names:=by rw[←hH5,pS]
 have k34:∀b o,H3.get? b=some o→H4.get? b=some o:=λb o e=>by rw[←hH4];exact an _ e
 have k45:∀b o,H4.get? b=some o→H5.get? b=some o:=λb o e=>by rw[←hH5];exact Eh _ _ _ _ e
 have k23:∀b o,h2.get? b=some o→H3.get? b=some o:=λb o e=>by rw[←hH3];exact an _ e
 have k25:∀b o,h2.get? b=some o→H5.get? b=some o:=λb o e=>k45 b o (k34 b o (k23 b o e))
 have k15:∀b o,s1.heap.get? b=some o→H5.get? b=some o:=λb o e=>k25 b o (kp b o e)
 have gD:H5.get? h2.objs.size=some {cls:=.type "list",dict:=none,data:=.seq ([]:List Value).toArray}:=k45 _ _ (k34 _ _ (by rw[←hH3];exact aw _ rfl))
 have gL:H5.get? H3.objs.size=some {cls:=.type "dict",dict:=none,data:=.dict #[]}:=k45 _ _ (by rw[←hH4];exact aw _ rfl)
 have hI:∀a,J a→¬stk a:=λa z=>N0.notStk ok1 z
 have ltI:∀a,J a→a<h2.objs.size:=λa z=>(by obtain⟨oI,gI⟩:=W.alive 0 _ st0 a z;exact bJ gI)
 let N:Addr→Prop:=λa=>h2.objs.size≤a∧a<H5.objs.size∧∃o,H5.get? a=some o
 have hNn:∀a,N a→s1.heap.get? a=ae:=λa z=>by
  cases g:s1.heap.get? a with
  |none=>rfl
  |some o=>exact absurd (hsz1 a o g) (fN.mpr z.1)
 have ND:N h2.objs.size:=⟨b8 _,bJ gD,_,gD⟩
 have NL:N H3.objs.size:=⟨by rw[sz3];exact gC _,bJ gL,_,gL⟩
 have NI:∀a,J a→¬N a:=λa q z=>fN.mpr z.1 (ltI a q)
 have Nc:∀c,H3.objs.size+1≤c→c<H3.objs.size+1+nCells scope.names→H5.IsCell c ae∧N c:=λc a b=>by
  have:H5.IsCell c ae:=by rw[←hH5];exact qo _ _ c (by rw[sz4];exact a) (by rw[hH5,sz5,sz4];exact b)
  refine(id this).elim λo r1_=>r1_.elim λg z=>?_
  exact⟨this,by lia,bJ g,o,g⟩
 have okP:HeapOk P (cq stk J) hpL {s1 with heap:=h2}:=t7 (tk:=s1.toks) ok1 N0 kp (W.alive 0 _ st0)
 have hNn2:∀a,N a→h2.get? a=ae:=λa z=>by
  cases g:h2.get? a with
  |none=>rfl
  |some o=>exact absurd (bJ g) (fN.mpr z.1)
 refine(xP (tk:=s1.toks) (H:=H5) okP (N:=N) hNn2 (λa z=>z.2.2) k25).elim λokA kyB=>?_
 have stEq:(λa=>cq stk J a∨N a)=cq (λa=>stk a∨N a) J:=by
  funext a;simp only[cq,or_right_comm]
 rw[stEq]at okA kyB
 have kyA:bW (Fz stk hp1) (Fz (cq (λa=>stk a∨N a) J) hpL) s1.heap H5:=λa o f g=>(by
  refine(fzPlus N0 kp a o f g).elim λf2 g2=>?_
  exact kyB a o f2 g2)
 have evA:EnvOk P A (cq (λa=>stk a∨N a) J) hpL {ic scope (closL env.cells scope.names []) H3.objs.size env with scope:=relabel scope env} (keepL fr loc) {s1 with heap:=H5}:=
  wF (s:={s1 with heap:=h2}) (tk:=s1.toks) (ub (tk:=s1.toks) ev1 N0 kp) F.kind F.nodup F.free (λn h=>by have:=F.out n h;rw[←hs]at this;exact this) k25 (λc o g=>by rw[sz3];exact iE (bJ g)) ⟨_,_,_,gL,rfl,(by intro e he;simp at he),λ_=>rfl⟩ (λc a b=>⟨(Nc c a b).1,.inl (.inr (Nc c a b).2)⟩) kyB (λa z=>z.elim (λz=>.inl (.inl z)) .inr) (.inl (.inr NL))
 have neDL:h2.objs.size≠H3.objs.size:=by rw[sz3];exact cR (ct _)
 have cellN:∀n c,(cellsFrom (H3.objs.size+1) scope.names (closL env.cells scope.names [])).lookup n=some c→(stk c∨N c)∧c≠h2.objs.size:=λn c e=>by
  by_cases h1:(n,a9)∈scope.names
  ·obtain⟨c2,e2,a,b⟩:=cellsFrom_bound scope.names (H3.objs.size+1) (closL env.cells scope.names []) n h1
   rw[e]at e2;cases e2
   exact⟨.inr (Nc c a b).2,e9 (by rw[sz3]at a;exact aE (iE (ct _)) a)⟩
  ·have hcl:∀n k,(n,k)∈scope.names→k= .free→∃c,env.cells.lookup n=some c:=λn k h1 h2=>by
    subst h2
    refine(ev1.cells n (by have:=F.out n h1;rw[←hs]at this;exact this)).elim λc r1_=>r1_.elim λ_ r3_=>r3_.elim λe _=>?_
    exact⟨c,e⟩
   rw[cellsFrom_other _ _ _ _ h1,closL_lookup _ _ _ F.nodup hcl]at e
   by_cases h2:(n,b6)∈scope.names
   ·rw[if_pos h2]at e
    have sc':=ev1.stkC n c e
    refine(ok1.stkl c sc').elim λo g=>?_
    exact⟨.inl sc',cR (hsz1 c o g)⟩
   ·rw[if_neg h2]at e;cases e
 have cA:CSt P A (cq (λa=>stk a∨N a) J) hpL {ic scope (closL env.cells scope.names []) H3.objs.size env with scope:=relabel scope env} (keepL fr loc) {s1 with heap:=H5} h2.objs.size []:=
  ⟨evA,okA,.inl (.inr ND),neDL,λn e=>(cellN n _ e).2 rfl,#[],⟨0,gD⟩,vNil⟩
 have ownF:∀b,nv P {ic scope (closL env.cells scope.names []) H3.objs.size env with scope:=relabel scope env} (idt++ids) h2.objs.size b→N b:=by
  rintro b (⟨i,hi,⟨_,z⟩|⟨_,z⟩⟩|z)
  ·subst z;exact NL
  ·rcases F.own i hi with q|q
   ·exfalso
    rename_i hk
    have:Fp {ic scope (closL env.cells scope.names []) H3.objs.size env with scope:=relabel scope env} (P.nm i)=(scope.names.lookup (P.nm i)).map (relK env.scope (P.nm i)):=by
     show(relabel scope env).names.lookup (P.nm i)=_
     rw[mv,oj]
    rw[this,q]at hk
    simp[relK]at hk
   ·obtain⟨c2,e2,a,b'⟩:=cellsFrom_bound scope.names (H3.objs.size+1) (closL env.cells scope.names []) (P.nm i) (mem_of_lookup' q)
    have:(cellsFrom (H3.objs.size+1) scope.names (closL env.cells scope.names [])).lookup (P.nm i)=some b:=z
    rw[this]at e2;cases e2
    exact(Nc b a b').2
  ·subst z;exact ND
 have st5:St 0 H5:=W.frame _ _ _ st0 λb _ o g=>k25 _ _ g
 have e15:Ext (nv P {ic scope (closL env.cells scope.names []) H3.objs.size env with scope:=relabel scope env} (idt++ids) h2.objs.size) (λa=>stk a∨N a) hp1 s1 hp1 {s1 with heap:=H5}:=Ext.grow (stk:=λa=>stk a∨N a) (tk:=s1.toks) k15
 have fresh:∀i∈idt++ids,keepL fr loc i=ae:=λi hi=>by
  unfold keepL
  split
  ·rename_i hm
   have:=F.free i hm
   rcases F.own i hi with q|q<;>rw[q]at this<;>cases this
  ·rfl
 have run:=yg (P:=P) (Fl:=Fl) (K:=K) hd hg hn1 ht htg hf hi hdis rm (env:={ic scope (closL env.cells scope.names []) H3.objs.size env with scope:=relabel scope env}) (by show relabel scope env=_;rw[mv,hs]) (stk:=λa=>stk a∨N a) hG fresh (λa q z=>z.elim (hI a q) (NI a q)) e15 N0 cA (.inr NL) (λn c e=>(cellN n c e).1) (ev1.frs.up (λ_ z=>.inl z) λb o _ g d=>⟨o,g,d⟩) (.inr ND) W st5 (W.rk _ _ _ _ kyA r0) lp
 refine mq (u8 (P:=P) hg (λQ E q=>W.self A 0 _ Q E st5 q) run) λrr s' hr=>?_
 cases rr with
 |error e=>exact hr.elim
 |ok f=>
  refine hr.elim λhp' r1_=>r1_.elim λacc' r2_=>r2_.elim λex r3_=>r3_.elim λcc q=>?_
  refine hRR _ _ hp' acc' f s' ⟨e1.trans (ex.to1 (λb z=>hNn b (ownF b z)) (λb z=>z.imp id (hNn b)) λb z=>.inl z),neDL,(by
   cases g:s.heap.get? h2.objs.size with
   |none=>rfl
   |some o=>obtain⟨o',g'⟩:=e1.there _ _ g;rw[hNn _ ND]at g';cases g'),_,λa z=>.inl z,cc.ok,.inr ND,.inr NL,?_,?_,?_,?_,cc.lst⟩ q
  ·intro z;refine(ok1.stkl _ z).elim λo g=>?_;rw[hNn _ ND]at g;cases g
  ·intro z;refine(ok1.stkl _ z).elim λo g=>?_;exact nomatch (hNn _ NL).symm.trans g
  ·show s.heap.get? H3.objs.size=ae
   cases g:s.heap.get? H3.objs.size with
   |none=>rfl
   |some o=>obtain⟨o',g'⟩:=e1.there _ _ g;rw[hNn _ NL]at g';cases g'
  ·obtain⟨m,n,_⟩:=cc.ev.ns;exact⟨m,n⟩
end Mine
namespace Mine
variable{A:aC}{P:dH}{Fl:iq}{d:Nat}{sc:Scope}
noncomputable def cI(fr:List Nat)(src:DE)(t:DA)(f:DT)(inner:CD):DE:=λQ X loc hp=>src (λv hp1=>∃vs,eh hp1 v=some vs∧lQ v hp1 t f inner (λacc hp'=>Q (.lst acc) hp') vs [] (keepL fr loc) hp1) X loc hp
theorem mS.fin{stk:Addr→Prop}{hp hp':Hp}{s s':af}{D C:Addr}{acc:List V}(c:mS P stk hp hp' s s' D C acc){h':Heap}(hs:bP C s'.heap h'):Ext no1 stk hp s hp' {s' with heap:=h'}∧HeapOk P stk hp' {s' with heap:=h'}∧P.VR stk hp' h' (.lst acc) (.ref D):=by
 obtain⟨stkN,sub,ok,sD,sC,nD,nC,fC,_,ys,⟨n,g⟩,r⟩:=c.all
 have ky:bW (Fz stkN hp') (Fz stk hp') s'.heap h':=λa o f g=>⟨⟨f.1,λz=>f.2 (sub a z)⟩,(hs.2 a (λz=>f.2 (z▸sC))).trans g⟩
 have nI:∀b o,s.heap.get? b=some o→b≠C:=by rintro b o g rfl;rw[fC]at g;cases g
 refine⟨⟨λb o a n g=>?_,λb o g=>?_,λb o st g d=>?_,c.ext.fresh,c.ext.drawn,c.ext.os⟩,⟨λa o e=>(ok.obj a o e).keep ky λo g=>(hs.2 a ?_).trans g,λa e z=>ok.apart a e (sub a z),λb o e=>(hs.2 b ?_).trans (ok.base b o e),ok.new,λa z=>ok.stkn a (sub a z),λa z=>?_,ok.gens⟩,?_⟩
 ·rcases c.ext.keep b o a n g with q|⟨z,d,sl,q⟩
  ·exact .inl ((hs.2 b (nI b o g)).trans q)
  ·exact .inr ⟨z,d,sl,(hs.2 b (nI b o g)).trans q⟩
 ·obtain⟨o',g'⟩:=c.ext.there b o g
  exact⟨o',(hs.2 b (nI b o g)).trans g'⟩
 ·obtain⟨o',g',d'⟩:=c.ext.dic b o st g d
  exact⟨o',(hs.2 b (nI b o g)).trans g',d'⟩
 ·rintro rfl;rw[stk_none ok sC]at e;cases e
 ·rintro rfl;rw[ok.stkn b sC]at e;cases e
 ·obtain⟨o,g⟩:=ok.stkl a (sub a z);exact⟨o,(hs.2 a (by rintro rfl;exact nC z)).trans g⟩
 ·simp only[VRe]
  exact⟨D,ys,rfl,⟨stk_none ok sD,nD⟩,⟨n,(hs.2 D c.dif).trans g⟩,r.keep ky⟩
theorem EnvOk.move{stk stk':Addr→Prop}{hp hp':Hp}{env:Env}{loc:bk}{s s':af}(ev:EnvOk P A stk hp env loc s)(ky:bW (Fz stk hp) (Fz stk' hp') s.heap s'.heap)(kp:∀a o,stk a→s.heap.get? a=some o→∃o',s'.heap.get? a=some o'∧o'.data=o.data)(sub:∀a,stk a→stk' a):EnvOk P A stk' hp' env loc s':=by
 refine⟨ev.kind,ev.glob,ev.blt,?_,λj u g kk=>?_,sub _ ev.stkL,λn c z=>sub _ (ev.stkC n c z),λn kk=>?_,ev.apart,ev.apartL,ev.frs.up sub λb o z g hd=>(by obtain⟨es,n,d⟩:=hd;obtain⟨o',g',d'⟩:=kp b o z g;exact⟨o',g',es,n,d'.trans d⟩),ev.top⟩
 ·obtain⟨m,⟨o,es,ep,g,rr,r3⟩,hm⟩:=ev.ns
  obtain⟨o',g',d'⟩:=kp _ _ ev.stkL g
  exact⟨m,⟨o',es,ep,g',d'.trans rr,r3⟩,λj u a b=>(by obtain⟨z,p,q⟩:=hm j u a b;exact⟨z,p,q.keep ky⟩)⟩
 ·obtain⟨c,z,p,⟨o,g,rr⟩,q⟩:=ev.cell j u g kk
  obtain⟨o',g',d'⟩:=kp _ _ (ev.stkC _ _ p) g
  exact⟨c,z,p,⟨o',g',d'.trans rr⟩,q.keep ky⟩
 ·obtain⟨c,z,p,⟨o,g,rr⟩⟩:=ev.cells n kk
  obtain⟨o',g',d'⟩:=kp _ _ (ev.stkC _ _ p) g
  exact⟨c,z,p,⟨o',g',d'.trans rr⟩⟩
theorem nS{scope:Scope}(hnd:(scope.names.map (·.1)).Nodup):∀x∈scope.names,x.2= .local→scope.names.lookup x.1=some .local:=λx hx h=>jW hnd (by rw[←h];exact hx)
theorem Sim.compG{G:Expr→Prop}(hd:0<d){elt:Expr}{rest:List cB}{scope:Scope}{pos:Pos}{t iter:Expr}{ifs:List Expr}{idt ids fr:List Nat}{De:DE}{Dt:DA}{Df:DT}{inner:CD}(hG:G t)(hn1:rest[0]?=ae∨∃t' i' f',rest[0]?=some ⟨t',i',f',0⟩)
 (F:bi P scope sc fr (idt++ids))
 (he:bU P Fl d sc iter De)(ht:SimG P Fl d (jR scope sc) t idt Dt)(htg:Tgt idt Dt)(hf:eM P Fl d (jR scope sc) ifs Df)(hi:SimI P Fl d (jR scope sc) elt (⟨t,iter,ifs,0⟩::rest) scope pos 1 ids inner)(hdis:∀i∈ids,i∉idt)(hfs:∀env x,foldedSetIterable iter env x=pure x)
 {Qe:(V→Hp→Prop)→bk→V→Hp→Prop}(hQe:∀Q loc v hp1,Qe Q loc v hp1→∃vs hpL u,Its P v vs hp1 hpL G (same u hpL)∧lQ u hpL Dt Df inner (λacc hp'=>Q (.lst acc) hp') vs [] (keepL fr loc) hpL):
 bU P Fl d sc (.ListComp elt (⟨t,iter,ifs,0⟩::rest) scope pos) (λQ X loc hp=>De (Qe Q loc) X loc hp):=by
 intro A env s Q X loc hp stk rm hs ev ok hD
 rw[T,Ge]
 refine lC (use:=none) rfl (hfs env) (jX λn k h1 h2=>?_) F.kind (nS F.nodup) ?_
 ·subst h2
  obtain⟨c,_,e,_⟩:=ev.cells n (by have:=F.out n h1;rw[←hs]at this;exact this)
  exact⟨c,e⟩
 ·refine nX (K:=λacc hp'=>Q (.lst acc) hp') hd hG rfl hn1 F he ht htg hf hi hdis rm hs ev ok (hQe Q loc) hD (λy y z=>z) λD C hp' acc f s' ce q=>?_
  refine ce.all.elim λy r2_=>r2_.elim λy r4_=>r4_.elim λy r6_=>r6_.elim λy r8_=>r8_.elim λy r10_=>r10_.elim λy r12_=>r12_.elim λy r14_=>r14_.elim λy r16_=>r16_.elim λe17_ y=>e17_.elim λm hn=>?_
  refine⟨m,hn,λh' hs'=>?_⟩
  refine(ce.fin hs').elim λe r1_=>r1_.elim λok' r=>?_
  exact⟨hp',e,ok',_,q,r⟩
theorem Sim.comp(hz:(P.H₀.get? sysModules).isSome=true)(hd:0<d){elt:Expr}{rest:List cB}{scope:Scope}{pos:Pos}{t iter:Expr}{ifs:List Expr}{idt ids fr:List Nat}{De:DE}{Dt:DA}{Df:DT}{inner:CD}(hn1:rest[0]?=ae∨∃t' i' f',rest[0]?=some ⟨t',i',f',0⟩)
 (F:bi P scope sc fr (idt++ids))
 (he:bU P Fl d sc iter De)(ht:SimG P Fl d (jR scope sc) t idt Dt)(htg:Tgt idt Dt)(hf:eM P Fl d (jR scope sc) ifs Df)(hi:SimI P Fl d (jR scope sc) elt (⟨t,iter,ifs,0⟩::rest) scope pos 1 ids inner)(hdis:∀i∈ids,i∉idt)(hfs:∀env x,foldedSetIterable iter env x=pure x):
 bU P Fl d sc (.ListComp elt (⟨t,iter,ifs,0⟩::rest) scope pos) (cI fr De Dt Df inner):=
 Sim.compG (G:=λz=>True) hd trivial hn1 F he ht htg hf hi hdis hfs (Qe:=λQ loc v hp1=>∃vs,eh hp1 v=some vs∧lQ v hp1 Dt Df inner (λacc hp'=>Q (.lst acc) hp') vs [] (keepL fr loc) hp1) λQ loc v hp1 h=>by obtain⟨vs,hv,lp⟩:=h;exact⟨vs,hp1,v,its_of hz hv,lp⟩
theorem SimS.asgComp(inj:∀i j,P.nm i=P.nm j→i=j)(hz:(P.H₀.get? sysModules).isSome=true)(hd:0<d){i:Nat}{x:Str}{px spos:Pos}{elt:Expr}{rest:List cB}{scope:Scope}{pos:Pos}{t iter:Expr}{ifs:List Expr}{idt ids fr:List Nat}{De:DE}{Dt:DA}{Df:DT}{inner:CD}(hn1:rest[0]?=ae∨∃t' i' f',rest[0]?=some ⟨t',i',f',0⟩)
 (hx:P.nm i=x)(hk:sc.names.lookup x=some .local)
 (F:bi P scope sc fr (idt++ids))
 (he:bU P Fl d sc iter De)(ht:SimG P Fl d (jR scope sc) t idt Dt)(htg:Tgt idt Dt)(hf:eM P Fl d (jR scope sc) ifs Df)(hi:SimI P Fl d (jR scope sc) elt (⟨t,iter,ifs,0⟩::rest) scope pos 1 ids inner)(hdis:∀i∈ids,i∉idt)(hfs:∀env x,foldedSetIterable iter env x=pure x)
 (hsw:∀env:Env,env.scope=sc→swapsWith (.ListComp elt (⟨t,iter,ifs,0⟩::rest) scope pos) (some (.Name x px)) spos.line env=pure true):
 SimS P Fl d sc (.Assign [.Name x px] (.ListComp elt (⟨t,iter,ifs,0⟩::rest) scope pos) spos) (bB (cI fr De Dt Df inner) (aG i)):=by
 subst hx
 intro A env s Q X loc hp stk rm hs ev ok hD
 rw[T,exec_Assign_Name_used _ _ _ _ (hsw env hs)]
 refine wpAny_bind (wpAny_standAt (wpAny_bind ?_))
 show wpAny _ A (do let _←comprehension (.ListComp elt (⟨t,iter,ifs,0⟩::rest) scope pos) scope env _ (newList []) false (eval iter env) (some (assign (.Name (P.nm i) px) env))) _ _ s
 refine wpAny_bind (wpAny_mono (lC (use:=some (assign (.Name (P.nm i) px) env)) (Q:=λy s'=>PostT P (ip env) stk hp s (QS P A stk env Q) .next s') rfl (hfs env) (jX λn k h1 h2=>?_) F.kind (nS F.nodup) ?_) (λy s' hq=>wpAny_pure (wpAny_pure hq)) λy y e=>e)
 ·subst h2
  obtain⟨c,_,e,_⟩:=ev.cells n (by have:=F.out n h1;rw[←hs]at this;exact this)
  exact⟨c,e⟩
 ·refine nX (G:=λy=>True) (K:=λacc hp'=>Q .next (upd loc i (.lst acc)) hp') (X:=λk hp'=>X k loc hp') hd trivial rfl hn1 F he ht htg hf hi hdis rm hs ev ok (λv hp1 h=>by obtain⟨vs,hv,lp⟩:=h;exact⟨vs,hp1,v,its_of hz hv,lp⟩) hD (λe s'=>?_) λD C hp' acc f s' ce q=>?_
  ·rintro⟨hp1,e1,ok1,k,hx,hf⟩
   exact⟨hp1,e1.of1,ok1,k,loc,ev.step ok e1,hx,hf⟩
  ·obtain⟨stkN,sub,okN,sD,sC,nD,nC,fC,⟨m,hn⟩,ys,⟨n,pl⟩,r⟩:=ce.all
   have okP:HeapOk P (cq stk (one C)) hp' s':=okN.sub λa z=>z.elim (sub a) (λq=>q▸sC)
   have kyP:bW (Fz stk hp) (Fz (cq stk (one C)) hp') s.heap s'.heap:=λa o f g=>by
    refine(ce.ext.keepy (stk:=stk) (λy z=>z.elim) a o f g).elim λf2 g2=>?_
    exact⟨⟨f2.1,λz=>z.elim f2.2 (by rintro rfl;rw[fC]at g;cases g)⟩,g2⟩
   have evP:EnvOk P A (cq stk (one C)) hp' env loc s':=ev.move kyP (λa o z g=>ce.ext.dataOf (stk_none ok z) (λz=>z) g) λa z=>.inl z
   have rP:P.VR (cq stk (one C)) hp' s'.heap (.lst acc) (.ref D):=by
    simp only[VRe]
    exact⟨D,ys,rfl,⟨stk_none okN sD,λz=>z.elim nD ce.dif⟩,⟨n,pl⟩,r.keep λa o f g=>⟨⟨f.1,λz=>f.2 (z.elim (sub a) (λq=>q▸sC))⟩,g⟩⟩
   show wpAny _ A (assign (.Name (P.nm i) px) env (.ref D)) _ _ s'
   refine wpAny_assign_Name (storeVar inj (by rw[hs,hk]) evP okP rP λs2 e2 ev2 ok2=>?_)
   have hCown:¬nu P env [i] C:=λz=>nC (ev.own C (ownI_E C z))
   refine⟨m,let ⟨o,es,ep,g,d,r⟩:=hn;(by obtain⟨o',g',d'⟩:=e2.dataOf (stk_none okN sC) hCown g;exact⟨o',es,ep,g',d'.trans d,r⟩),λh' hs'=>?_⟩
   obtain⟨ex,okx,evx⟩:=leaveI (own:=ip env) (stk:=stk) (env:=env) (loc:=upd loc i (.lst acc)) (tk:=s2.toks) (Ext.refl _ _ hp s) (Wen.one ok fC) (((ce.ext.of1.more (stk':=cq stk (one C)) (λb z=>.inl z) λb (z:stk b∨b=C)=>z.elim .inl λq=>.inr (q▸fC)).trans (e2.wider ownI_E)).wider λb z=>.inl z) (λa z q=>nC (z▸q)) ok2 (λy z=>z.elim) λb o n g=>(hs'.2 b n).trans g
   exact⟨hp',ex,okx,.next,_,evx ev.stkL ev.stkC ev.frs ev2,q,trivial⟩
end Mine
namespace Mine
variable{P:dH}{d:Nat}{sc:Scope}
noncomputable def tY(h:Heap)(S:List Addr):Heap:=⟨h.objs.mapIdx λi o=>if i∈S then{o with data:=.freed}else o,h.life⟩
theorem rM{h:Heap}{S:List Addr}{b:Addr}(hb:b∈S):(tY h S).get? b=ae:=by
 unfold tY Fo
 rw[tW]
 cases q:h.objs[b]? with
 |none=>rfl
 |some o=>rw[dE,if_pos hb]
theorem hide_out{h:Heap}{S:List Addr}{b:Addr}(hb:b∉S):(tY h S).get? b=h.get? b:=by
 unfold tY Fo
 rw[tW]
 cases q:h.objs[b]? with
 |none=>rfl
 |some o=>rw[dE,if_neg hb]
theorem uJ{h:Heap}{S:List Addr}:(tY h S).StaysIn h:=λb o e=>by
 by_cases hb:b∈S
 ·rw[rM hb]at e;cases e
 ·rwa[hide_out hb]at e
noncomputable def ExcAt(cls:Value)(ea:Addr)(tr:Option Addr)(fl:Value)(h:Heap):Prop:=
 ∃oe vs a0,h.get? ea=some oe∧oe.cls=cls∧oe.data= .fields vs∧vs[0]?=some a0∧1<vs.size∧(match tr with
  |ae=>vs[1]?=some .none
  |some T=>vs[1]?=some (.ref T)∧T≠ea∧∃oT ts,h.get? T=some oT∧oT.data= .fields ts∧ts[3]?=some fl)
noncomputable def o9(hp:Hp)(ea:Addr):Option Addr→Hp
 |ae=>upd hp ea .fld
 |some T=>upd (upd hp ea .fld) T .fld
noncomputable def dy(ex:Nat→Value):iq:=λk e hp' s=>∃ea tr,e= .ref ea∧k.2 ea=ae∧(∀T,tr=some T→k.2 T=ae)∧hp'=o9 k.2 ea tr∧ExcAt (ex k.1) ea tr .none s.heap
theorem yz{hp:Hp}{a:Addr}{o:O}(h:hp a=some o):upd hp a o=hp:=by
 funext b
 by_cases q:b=a
 ·subst q;rw[upd_same,h]
 ·rw[upd_ne q]
theorem oV{hp:Hp}{a:Addr}{o:O}(h:hp a=ae):del (upd hp a o) a=hp:=by
 funext b
 by_cases q:b=a
 ·subst q;rw[zh,h]
 ·rw[del_ne q,upd_ne q]
theorem vi{own stk:Addr→Prop}{hp:Hp}{s:af}{a:Addr}{o:Obj}{vs:Array Value}{f:Array Value→Array Value}(ok:HeapOk P stk hp s)(ha:hp a=some .fld)(g:s.heap.get? a=some o)(hd:o.data= .fields vs):
 HeapOk P stk hp {s with heap:=s.heap.update a (de f)}∧Ext own stk hp s hp {s with heap:=s.heap.update a (de f)}∧(s.heap.update a (de f)).get? a=some (o.mapFields f):=by
 have sb:bP a s.heap (s.heap.update a (de f)):=bS ..
 have hd':=eP hd f
 have g':=cj (de f) g (iY hd')
 have ok':=HeapOk.change (tk:=s.toks) (o:=.fld) ok ha sb ⟨_,_,g',hd'⟩
 have e':=Ext.change (own:=own) (tk:=s.toks) (o:=.fld) ok ha sb ⟨_,g'⟩
 rw[yz ha]at ok' e'
 exact⟨ok',e',g'⟩
theorem wx{A:aC}{stk:Addr→Prop}{s:af}{l:List Env}(fs:Fs A stk s)(hl:A.frames=some l):∀b∈l.filterMap (·.frame),stk b∧∃o,s.heap.get? b=some o∧ow o:=by
 obtain⟨l',hl',h⟩:=fs
 rw[hl]at hl';cases hl'
 intro b hb
 obtain⟨e,he,q⟩:=w8.mp hb
 obtain⟨_,L,o,hf,st,g,d⟩:=h e he
 rw[hf]at q;cases q
 exact⟨st,o,g,d⟩
theorem funFrames{h base:Heap}:∀{l:List Env},(∀e∈l,e.scope.kind= .function∧∃L o,e.frame=some L∧base.get? L=ae∧h.get? L=some o∧ow o)→h.FunFrames base l:=by
 intro xs_
 induction xs_ with
 |nil=>
  intro _
  exact trivial
 |cons e l ih=>
  intro k
  refine(k e ak).elim λhk r1_=>r1_.elim λL r2_=>r2_.elim λo r3_=>r3_.elim λhf r4_=>r4_.elim λhn r5_=>r5_.elim λg r6_=>r6_.elim λes r7_=>r7_.elim λn hd=>?_
  refine⟨(by rw[hk];intro z;cases z),⟨L,o,hf,hn,g,λvs z=>(by rw[hd]at z;cases z)⟩,ih λe he=>k e (aq _ he)⟩
theorem qQ{A:aC}{own stk:Addr→Prop}{hp:Hp}{s:af}{env0:Env}{outer:List Env}{L ea:Addr}{oe:Obj}{vs:Array Value}{head a0:Value}{hn:Bool}{Q:Unit→af→Prop}{E:Value→af→Prop}(fs:Fs A stk s)(hfr:A.frames=some (env0::outer))(hf:env0.frame=some L)
 (ok:HeapOk P stk (upd hp ea .fld) s)(hea:hp ea=ae)(g:s.heap.get? ea=some oe)(hd:oe.data= .fields vs)(h0:vs[0]?=some a0)(hz:1<vs.size)
 (k:∀T h',hp T=ae→Ext own stk (upd hp ea .fld) s (o9 hp ea (some T)) {s with heap:=h'}→HeapOk P stk (o9 hp ea (some T)) {s with heap:=h'}→ExcAt oe.cls ea (some T) (rawInt L) h'→Q () {s with heap:=h'}):
 wpAny P.M A (do let a←PySem.frameOf env0;let pl←entryPlaceOf L hn;let b←Gn head a .none (rawInt L) .none pl;setField (.ref ea) 1 b) Q E s:=by
 let S:List Addr:=ea::(env0::outer).filterMap (·.frame)
 have inS:=wx fs hfr
 have nstk:¬stk ea:=ok.apart ea (by rw[upd_same];intro z;cases z)
 have fr:s.heap.FunFrames (tY s.heap S) (env0::outer):=by
  obtain⟨l',hl',h⟩:=id fs
  rw[hfr]at hl';cases hl'
  exact funFrames λe he=>by
   refine(h e he).elim λhk r1_=>r1_.elim λL r2_=>r2_.elim λo r3_=>r3_.elim λhf r4_=>r4_.elim λst r5_=>r5_.elim λg d=>?_
   exact⟨hk,L,o,hf,rM (aq _ (w8.mpr ⟨e,he,hf⟩)),g,d⟩
 refine wpAny_entryW (base:=tY s.heap S) hfr fr hf g uJ (rM ak) hd hz h0 λh' hN=>?_
 obtain⟨st,_,⟨oe',vs',T,oT,ts,ge,⟨hc,h0'⟩,hd',h1,bT,hTe,gT,hdT,h3⟩,up⟩:=hN
 have out:∀b o,b∉S→s.heap.get? b=some o→h'.get? b=some o:=λb o hb g=>st b o (by rw[hide_out hb];exact g)
 have TS:T∉S:=λz=>by
  rcases am.mp z with z|z
  ·exact hTe z
  ·refine(inS T z).elim λy r2_=>r2_.elim λo r3_=>r3_.elim λg r4_=>r4_.elim λes r5_=>r5_.elim λn hdd=>?_
   obtain⟨sl,g'⟩:=up T o g λvs z=>by rw[hdd]at z;cases z
   rw[gT]at g';cases g'
   rw[show({o with slots:=sl}:Obj).data=o.data from rfl,hdd]at hdT;cases hdT
 have nT:s.heap.get? T=ae:=by rw[←hide_out TS];exact bT
 have fT:=fz_of_new ok nT
 have hpT:hp T=ae:=by have:=fT.1;rwa[upd_ne hTe]at this
 have notS:∀b,¬stk b→b≠ea→b∉S:=λb h1 h2 z=>by
  rcases am.mp z with z|z
  ·exact h2 z
  ·exact h1 (inS b z).1
 have hE':∀b,b≠ea→b≠T→o9 hp ea (some T) b=hp b:=λb h1 h2=>by simp only[o9];rw[upd_ne h2,upd_ne h1]
 have ky:bW (Fz stk (upd hp ea .fld)) (Fz stk (o9 hp ea (some T))) s.heap h':=by
  rintro a o ⟨f1,f2⟩ g
  have n1:a≠ea:=by rintro rfl;rw[upd_same]at f1;cases f1
  have n2:a≠T:=by rintro rfl;rw[nT]at g;cases g
  refine⟨⟨?_,f2⟩,out a o (notS a f2 n1) g⟩
  rw[hE' a n1 n2];rwa[upd_ne n1]at f1
 refine k T h' hpT ⟨λb o e n g=>?_,λb o g=>?_,λb o z g dd=>?_,λb e n=>?_,rfl,rfl⟩ ⟨λb o e=>?_,λb e z=>?_,λb o e=>?_,λb e=>?_,ok.stkn,λa z=>?_,ok.gens⟩ ⟨oe',vs',a0,ge,hc,hd',h0',(dB.mp h1).1,h1,hTe,oT,ts,gT,hdT,h3⟩
 ·have n1:b≠ea:=by rintro rfl;rw[upd_same]at e;cases e
  by_cases z:b∈S
  ·rcases am.mp z with z|z
   ·exact absurd z n1
   ·refine(inS b z).elim λq1 r1_=>r1_.elim λo' r2_=>r2_.elim λg' d'=>?_
    rw[g]at g';cases g'
    obtain⟨sl,g2⟩:=up b o g λvs z=>by obtain⟨es,n,hdd⟩:=d';rw[hdd]at z;cases z
    exact .inr ⟨q1,d',sl,g2⟩
  ·exact .inl (out b o z g)
 ·by_cases n1:b=ea
  ·subst n1;exact⟨_,ge⟩
  ·by_cases z:b∈S
   ·rcases am.mp z with z|z
    ·exact absurd z n1
    ·obtain⟨q1,o',g',d'⟩:=inS b z
     rw[g]at g';cases g'
     obtain⟨sl,g2⟩:=up b o g λvs z=>by obtain⟨es,n,hdd⟩:=d';rw[hdd]at z;cases z
     exact⟨_,g2⟩
   ·exact⟨o,out b o z g⟩
 ·obtain⟨sl,g2⟩:=up b o g λvs z=>by obtain⟨es,n,hdd⟩:=dd;rw[hdd]at z;cases z
  refine dd.elim λes r1_=>r1_.elim λn hdd=>?_
  exact⟨_,g2,es,n,hdd⟩
 ·have n1:b≠ea:=by rintro rfl;rw[upd_same]at e;cases e
  by_cases n2:b=T
  ·subst n2;exact nT
  ·rw[hE' b n1 n2]at n;rw[upd_ne n1]at e;exact absurd e n
 ·by_cases n2:b=T
  ·subst n2;simp only[o9,upd_same]at e;cases e;exact⟨oT,ts,gT,hdT⟩
  ·by_cases n1:b=ea
   ·subst n1;simp only[o9]at e;rw[upd_ne n2,upd_same]at e;cases e;exact⟨oe',vs',ge,hd'⟩
   ·rw[hE' b n1 n2]at e
    have e2:upd hp ea O.fld b=some o:=by rw[upd_ne n1];exact e
    exact(ok.obj b o e2).keep ky λo' g=>out b o' (notS b (ok.apart b (by rw[e2];intro z;cases z)) n1) g
 ·by_cases n2:b=T
  ·subst n2;exact fT.2 z
  ·by_cases n1:b=ea
   ·subst n1;exact nstk z
   ·rw[hE' b n1 n2]at e
    exact ok.apart b (by rw[upd_ne n1];exact e) z
 ·have n1:b≠ea:=by rintro rfl;rw[ok.new b (by rw[upd_same];intro z;cases z)]at e;cases e
  exact out b o (notS b (λz=>by rw[ok.stkn b z]at e;cases e) n1) (ok.base b o e)
 ·by_cases n2:b=T
  ·subst n2
   cases q:P.H₀.get? b with
   |none=>rfl
   |some o=>have:=ok.base b o q;rw[nT]at this;cases this
  ·by_cases n1:b=ea
   ·subst n1;exact ok.new b (by rw[upd_same];intro z;cases z)
   ·rw[hE' b n1 n2]at e
    exact ok.new b (by rw[upd_ne n1];exact e)
 ·obtain⟨o,g⟩:=ok.stkl a z
  by_cases q:a∈S
  ·rcases am.mp q with q|q
   ·subst q;exact⟨_,ge⟩
   ·refine(inS a q).elim λq1 r1_=>r1_.elim λo' r2_=>r2_.elim λg' d'=>?_
    rw[g]at g';cases g'
    obtain⟨sl,g2⟩:=up a o g λvs z=>by obtain⟨es,n,hdd⟩:=d';rw[hdd]at z;cases z
    exact⟨_,g2⟩
  ·exact⟨o,out a o q g⟩
theorem frameOf_congr{env env0:Env}(h:env0.frame=env.frame):PySem.frameOf env=PySem.frameOf env0:=by unfold PySem.frameOf;rw[h]
theorem ta{A:aC}{own stk:Addr→Prop}{hp:Hp}{s:af}{env env0:Env}{outer:List Env}{ea:Addr}{tr:Option Addr}{cls:Value}{Q:Unit→af→Prop}{E:Value→af→Prop}(fs:Fs A stk s)(hfr:A.frames=some (env0::outer))(hf0:env0.frame=env.frame)
 (ok:HeapOk P stk (o9 hp ea tr) s)(hea:hp ea=ae)(hT:∀T,tr=some T→hp T=ae)(x:ExcAt cls ea tr .none s.heap)
 (k:∀T L h',hp T=ae→Ext own stk (o9 hp ea tr) s (o9 hp ea (some T)) {s with heap:=h'}→HeapOk P stk (o9 hp ea (some T)) {s with heap:=h'}→ExcAt cls ea (some T) (rawInt L) h'→Q () {s with heap:=h'}):
 wpAny P.M A (noteFrame (.ref ea) env) Q E s:=by
 obtain⟨L,hfL⟩:∃L,env0.frame=some L:=by
  obtain⟨l',hl',h⟩:=id fs
  rw[hfr]at hl';cases hl'
  refine(h env0 ak).elim λz r2_=>r2_.elim λL r3_=>r3_.elim λo r4_=>r4_.elim λhf z=>?_
  exact⟨L,hf⟩
 have hfe:env.frame=some L:=hf0▸hfL
 obtain⟨oe,vs,a0,g,hc,hd,h0,hz,x⟩:=x
 subst hc
 unfold noteFrame
 simp only[hfe]
 rw[frameOf_congr hf0]
 cases tr with
 |none=>
  refine wpAny_bind (ci g hd x ?_)
  rw[if_neg (by decide)]
  exact qQ fs hfr hfL ok hea g hd h0 hz λT h' q1 q2 q3 q4=>k T L h' q1 q2 q3 q4
 |some T=>
  refine x.elim λh1 r1_=>r1_.elim λhTe r2_=>r2_.elim λoT r3_=>r3_.elim λts r4_=>r4_.elim λgT r5_=>r5_.elim λhdT h3=>?_
  have hpT:=hT T rfl
  refine wpAny_bind (ci g hd h1 ?_)
  rw[if_pos (show(dK T !=bf)=true from rfl)]
  refine wpAny_bind (ci gT hdT h3 ?_)
  rw[if_neg (show¬((bf==rawInt L)=true)from by simp[rawInt])]
  refine wpAny_bind (kB gT hdT (dB.mp h3).1 ?_)
  refine(vi (own:=own) (f:=(·.setIfInBounds 3 bf)) ok (a:=T) (by simp[o9]) gT hdT).elim λok1 r1_=>r1_.elim λe1 z=>?_
  have g1:(s.heap.update T (de (·.setIfInBounds 3 bf))).get? ea=some oe:=(tU _ _ hTe).trans g
  have ok2:=ok1.drop T
  have e2:=e1.trans (Ext.drop (own:=own) (stk:=stk) T)
  have hdel:del (o9 hp ea (some T)) T=upd hp ea .fld:=by
   simp only[o9];exact oV (by rw[upd_ne hTe];exact hpT)
  rw[hdel]at ok2 e2
  exact qQ (fs.step e1) hfr hfL ok2 hea g1 hd h0 hz λT' h' q1 q2 q3 q4=>k T' L h' q1 (e2.trans q2) q3 q4
theorem flightStep{A:aC}{own stk:Addr→Prop}{hp:Hp}{s:af}{ea T:Addr}{cls fl:Value}{Q:Unit→af→Prop}{E:Value→af→Prop}(ok:HeapOk P stk (o9 hp ea (some T)) s)(x:ExcAt cls ea (some T) fl s.heap)
 (k:∀h',Ext own stk (o9 hp ea (some T)) s (o9 hp ea (some T)) {s with heap:=h'}→HeapOk P stk (o9 hp ea (some T)) {s with heap:=h'}→ExcAt cls ea (some T) .none h'→Q () {s with heap:=h'}):
 wpAny P.M A (setFlight (.ref ea) ae) Q E s:=by
 refine x.elim λoe r1_=>r1_.elim λvs r2_=>r2_.elim λa0 r3_=>r3_.elim λg r4_=>r4_.elim λhc r5_=>r5_.elim λhd r6_=>r6_.elim λh0 r7_=>r7_.elim λhz r8_=>r8_.elim λh1 r9_=>r9_.elim λhTe r10_=>r10_.elim λoT r11_=>r11_.elim λts r12_=>r12_.elim λgT r13_=>r13_.elim λhdT h3=>?_
 have hz3:=(dB.mp h3).1
 unfold setFlight
 refine wpAny_bind (ci g hd h1 ?_)
 rw[if_pos (show(dK T !=bf)=true from rfl)]
 refine kB gT hdT hz3 ?_
 refine(vi (own:=own) (f:=(·.setIfInBounds 3 bf)) ok (a:=T) (by simp[o9]) gT hdT).elim λok1 r1_=>r1_.elim λe1 g1=>?_
 exact k _ e1 ok1 ⟨oe,vs,a0,(tU _ _ hTe).trans g,hc,hd,h0,hz,h1,hTe,_,_,g1,eP hdT _,by simp[hz3]⟩
theorem wo{A:aC}{own stk:Addr→Prop}{ex:Nat→Value}{k:Nat×Hp}{hp:Hp}{s:af}{env env0:Env}{outer:List Env}{e:Value}{Q:Unit→af→Prop}{E:Value→af→Prop}(fs:Fs A stk s)(hfr:A.frames=some (env0::outer))(hf0:env0.frame=env.frame)
 (ok:HeapOk P stk hp s)(x:dy ex k e hp s)(q:∀hp' s',Ext own stk hp s hp' s'→HeapOk P stk hp' s'→dy ex k e hp' s'→Q () s'):wpAny P.M A (leaving env e) Q E s:=by
 obtain⟨ea,tr,rfl,hea,hT,rfl,x⟩:=x
 unfold leaving
 refine wpAny_bind (ta (own:=own) fs hfr hf0 ok hea hT x λT L h' q1 q2 q3 q4=>?_)
 refine flightStep (own:=own) q3 q4 λh2 p2 p3 p4=>?_
 exact q _ _ (q2.trans p2) p3 ⟨ea,some T,rfl,hea,λT' e=>by cases e;exact q1,rfl,p4⟩
end Mine
namespace Mine
variable{P:dH}{Fl:iq}{d:Nat}{sc:Scope}
theorem wJ{kd:Str→Option NameKind}:∀{bs:List (Str×Value)}{m:Str→Option Value}{n:Str}{v:Value},(bs.map (·.1)).Nodup→(n,v)∈bs→kd n=some .local→bindL kd bs m n=some v:=by
 intro xs_
 induction xs_ with
 |nil=>
  intro _ _ _ _ h _
  exact(nomatch h)
 |cons e_ bs IH=>
  obtain⟨a,b⟩:=e_
  intro m n v hnd h hk
  rw[ar,aP]at hnd
  unfold bindL
  rcases am.mp h with h'|h'
  ·refine(eX h').elim λq1 q2=>?_
   subst q1 q2
   rw[if_pos hk]
   have:∀(bs:List (Str×Value))(m:Str→Option Value),n∉bs.map (·.1)→bindL kd bs m n=m n:=by
    intro bs
    induction bs with
    |nil=>intro m _;rfl
    |cons x bs ih=>
     obtain⟨c,e⟩:=x
     intro m hm
     simp only[ar,am,not_or]at hm
     unfold bindL
     rw[ih _ hm.2]
     split
     ·exact if_neg hm.1
     ·rfl
   rw[this bs _ hnd.1,if_pos rfl]
  ·exact IH hnd.2 h' hk
theorem wK{kd:Str→Option NameKind}:∀{bs:List (Str×Value)}{m:Str→Option Value}{n:Str}{v:Value},(bs.map (·.1)).Nodup→(n,v)∈bs→kd n≠some .local→bindC kd bs m n=some v:=by
 intro xs_
 induction xs_ with
 |nil=>
  intro _ _ _ _ h _
  exact(nomatch h)
 |cons e_ bs IH=>
  obtain⟨a,b⟩:=e_
  intro m n v hnd h hk
  rw[ar,aP]at hnd
  unfold bindC
  rcases am.mp h with h'|h'
  ·refine(eX h').elim λq1 q2=>?_
   subst q1 q2
   rw[if_neg hk]
   have:∀(bs:List (Str×Value))(m:Str→Option Value),n∉bs.map (·.1)→bindC kd bs m n=m n:=by
    intro bs
    induction bs with
    |nil=>intro m _;rfl
    |cons x bs ih=>
     obtain⟨c,e⟩:=x
     intro m hm
     simp only[ar,am,not_or]at hm
     unfold bindC
     rw[ih _ hm.2]
     split
     ·rfl
     ·exact if_neg hm.1
   rw[this bs _ hnd.1,if_pos rfl]
  ·exact IH hnd.2 h' hk
noncomputable def BR(P:dH)(F:Addr→Prop)(h:Heap):List (Nat×V)→List (Str×Value)→Prop
 | [],bs=>bs=[]
 |(i,v)::ps,bs=>∃x r,bs=(P.nm i,x)::r∧Mine.VR P.nm F h v x∧BR P F h ps r
theorem BRe:(∀(P:dH) F h bs,BR P F h [] bs=(bs=[]))∧∀(P:dH) F h i v ps bs,BR P F h ((i,v)::ps) bs=∃x r,bs=(P.nm i,x)::r∧Mine.VR P.nm F h v x∧BR P F h ps r:=⟨λz z z z=>rfl,λz z z z z z z=>rfl⟩
theorem BR.names{F:Addr→Prop}{h:Heap}:∀{ps:List (Nat×V)}{bs:List (Str×Value)},BR P F h ps bs→bs.map (·.1)=ps.map λp=>P.nm p.1:=by
 intro xs_
 induction xs_ with
 |nil=>
  intro bs r
  cases r;rfl
 |cons e_ ps ih=>
  obtain⟨i,v⟩:=e_
  intro bs r
  obtain⟨x,rr,rfl,_,q⟩:=r
  simp[ih q]
theorem BR.mem{F:Addr→Prop}{h:Heap}:∀{ps:List (Nat×V)}{bs:List (Str×Value)}{i:Nat}{v:V},BR P F h ps bs→(i,v)∈ps→∃x,(P.nm i,x)∈bs∧Mine.VR P.nm F h v x:=by
 intro xs_
 induction xs_ with
 |nil=>
  intro bs i v r h
  exact(nomatch h)
 |cons e_ ps ih=>
  obtain⟨j,u⟩:=e_
  intro bs i v r h
  obtain⟨x,rr,rfl,p,q⟩:=r
  rcases am.mp h with h'|h'
  ·refine(eX h').elim λq1 q2=>?_;subst q1 q2;exact⟨x,ak,p⟩
  ·refine(ih q h').elim λy r1_=>r1_.elim λa b=>?_;exact⟨y,aq _ a,b⟩
theorem BR.keep{F F':Addr→Prop}{h h':Heap}(k:bW F F' h h'):∀{ps:List (Nat×V)}{bs:List (Str×Value)},BR P F h ps bs→BR P F' h' ps bs:=by
 intro xs_
 induction xs_ with
 |nil=>
  intro bs r
  exact r
 |cons e_ ps ih=>
  obtain⟨i,v⟩:=e_
  intro bs r
  simp only[BRe]at r⊢
  refine r.elim λx r1_=>r1_.elim λrr r2_=>r2_.elim λe r3_=>r3_.elim λp q=>?_
  exact⟨x,rr,e,p.keep k,ih q⟩
noncomputable def locOf(ps:List (Nat×V)):bk:=λi=>ps.lookup i
theorem lz{α:Type}:∀{ps:List (Nat×α)}{i:Nat}{v:α},ps.lookup i=some v→(i,v)∈ps:=by
 intro xs_
 induction xs_ with
 |nil=>
  intros;simp_all
 |cons e_ ps ih=>
  obtain⟨j,u⟩:=e_
  intro i v h
  rw[eG]at h
  cases q:i==j with
  |true=>rw[q]at h;cases h;rw[show i=j by simpa using q];exact ak
  |false=>rw[q]at h;exact aq _ (ih h)
noncomputable def BindOk(P:dH)(fd:FuncData)(bd:List V→Hp→Option (List (Nat×V))):Prop:=
 ∀(A:aC)(s:af)(hp:Hp)(stk:Addr→Prop)(vs:List V)(xs:List Value)(ps:List (Nat×V))(Q:List (Str×Value)→af→Prop)(E:Value→af→Prop),HeapOk P stk hp s→P.VRs stk hp s.heap vs xs→bd vs hp=some ps→
  (∀bs h',(∀b o,s.heap.get? b=some o→h'.get? b=some o)→BR P (Fz stk hp) h' ps bs→Q bs {s with heap:=h'})→wpAny P.M A (bindArgs fd ⟨xs,[]⟩) Q E s
structure mZ(P:dH)(a:Addr)(fd:FuncData)(body:List Stmt):Prop where
 obj:∃o,P.H₀.get? a=some o∧o.data= .func fd
 code:P.H₀.CodeRec fd.code fd.qualname
 body:fd.body= .stmts body
 clo:fd.closure=[]
 glob:fd.globals=mainGlobals
 blt:fd.builtins=builtinsNs
 kind:fd.scope.kind= .function
 gen:fd.scope.isGenerator=false
 cor:fd.scope.isCoroutine=false
 nodup:(fd.scope.names.map (·.1)).Nodup
 nofree:∀n,(n,b6)∉fd.scope.names
noncomputable def jm(bd:List V→Hp→Option (List (Nat×V)))(D:DS):DC:=λvs Q X hp=>∃ps,bd vs hp=some ps∧D (λw z hp'=>match w with| .ret v=>Q v hp'| .next=>Q .none hp'|_=>False) (λk z hp'=>X k hp') (locOf ps) hp
theorem AH{A:aC}{stk:Addr→Prop}{hp:Hp}{s s₁:af}{fd:FuncData}{a:Addr}{ps:List (Nat×V)}{bs:List (Str×Value)}{body:List Stmt}(F:mZ P a fd body)(fs:Fs A stk s)(ok:HeapOk P stk hp s)(br:BR P (Fz stk hp) s.heap ps bs)(hids:∀p∈ps,fd.scope.names.lookup (P.nm p.1)=some .local∨fd.scope.names.lookup (P.nm p.1)=some .cell)(hpn:(ps.map λp=>P.nm p.1).Nodup)
 (x:InCallC s (callEnvC fd s.heap.objs.size a).locals (bindL (callEnvC fd s.heap.objs.size a).kindOf bs λw=>none) (callEnvC fd s.heap.objs.size a).cells (bindC (callEnvC fd s.heap.objs.size a).kindOf bs λw=>none) s₁):
 ∃stk':Addr→Prop,(∀a,stk a→stk' a)∧(∀b,ip (callEnvC fd s.heap.objs.size a) b→s.heap.get? b=ae)∧Ext no1 stk hp s hp s₁∧HeapOk P stk' hp s₁∧EnvOk P (A.deeper (callEnvC fd s.heap.objs.size a)) stk' hp (callEnvC fd s.heap.objs.size a) (locOf ps) s₁∧∀b,stk' b→stk b∨s.heap.get? b=ae:=by
 refine x.toInCall.same.elim λh' r1_=>r1_.elim λtk hs=>?_
 subst hs
 have keep:∀b o,s.heap.get? b=some o→h'.get? b=some o:=x.toInCall.keep
 let L:=s.heap.objs.size
 let cs:=cellsFrom (L+1) fd.scope.names []
 let N:Addr→Prop:=λb=>b=L∨∃n,cs.lookup n=some b
 have hlt:∀b,N b→L≤b:=by
  rintro b (rfl|⟨n,e⟩)
  ·exact b8 _
  ·exact dD (x.above n b (mem_of_lookup e))
 have hn:∀b,N b→s.heap.get? b=ae:=λb z=>by
  cases g:s.heap.get? b with
  |none=>rfl
  |some o=>exact absurd (bJ g) (fN.mpr (hlt b z))
 have hH:∀b,N b→∃o,h'.get? b=some o:=by
  rintro b (rfl|⟨n,e⟩)
  ·refine x.toInCall.ns.elim λo r1_=>r1_.elim λw r3_=>r3_.elim λw r5_=>r5_.elim λg w=>?_;exact⟨o,g⟩
  ·refine(x.cell n b e).elim λo r1_=>r1_.elim λg w=>?_;exact⟨o,g⟩
 obtain⟨okN,ky⟩:=xP (tk:=tk) ok hn hH keep
 refine⟨_,λa z=>.inl z,λb z=>hn b z,Ext.grow (stk:=stk) keep,okN,?_,λb z=>z.imp id (hn b)⟩
 have br':=br.keep ky
 have hnd:(bs.map (·.1)).Nodup:=by rw[br.names];exact hpn
 have kd:∀n,(callEnvC fd s.heap.objs.size a).kindOf n=fd.scope.names.lookup n:=λn=>rfl
 refine⟨F.kind,F.glob,F.blt,⟨_,x.toInCall.ns,λi v h k=>?_⟩,λi v h k=>?_,.inr (.inl rfl),λn c e=>.inr (.inr ⟨n,e⟩),λn k=>?_,λn n' c e e'=>?_,λn e=>?_,?_,?_⟩
 ·refine(br'.mem (lz h)).elim λy r1_=>r1_.elim λhm r=>?_
  exact⟨y,wJ hnd hm k,r⟩
 ·refine(br'.mem (lz h)).elim λy r1_=>r1_.elim λhm r=>?_
  have hk:fd.scope.names.lookup (P.nm i)=some .cell:=by
   rcases k with k|k
   ·exact k
   ·exact absurd (mem_of_lookup' k) (F.nofree _)
  refine(cellsFrom_bound fd.scope.names (L+1) [] (P.nm i) (mem_of_lookup' hk)).elim λc r1_=>r1_.elim λe r2_=>r2_.elim λw w=>?_
  have:=x.cell (P.nm i) c e
  rw[wK hnd hm (by rw[kd,hk];intro z;cases z)]at this
  exact⟨c,y,e,this,r⟩
 ·have hk:fd.scope.names.lookup n=some .cell:=by
   rcases k with k|k
   ·exact k
   ·exact absurd (mem_of_lookup' k) (F.nofree _)
  refine(cellsFrom_bound fd.scope.names (L+1) [] n (mem_of_lookup' hk)).elim λc r1_=>r1_.elim λe r2_=>r2_.elim λw w=>?_
  exact⟨c,_,e,x.cell n c e⟩
 ·exact name_of_addr x.apart (mem_of_lookup e) (mem_of_lookup e')
 ·exact absurd (x.above n _ (mem_of_lookup e)) (dh _)
 ·refine fs.elim λl r1_=>r1_.elim λhl h=>?_
  refine⟨callEnvC fd s.heap.objs.size a::l,by show A.frames.map _=_;rw[hl];rfl,λe he=>?_⟩
  rcases am.mp he with rfl|he
  ·refine x.toInCall.ns.elim λo r1_=>r1_.elim λes r2_=>r2_.elim λep r3_=>r3_.elim λg r4_=>r4_.elim λdd w=>?_
   exact⟨F.kind,L,o,rfl,.inr (.inl rfl),g,es,ep,dd⟩
  ·refine(h e he).elim λhk r1_=>r1_.elim λL' r2_=>r2_.elim λo r3_=>r3_.elim λhf r4_=>r4_.elim λst r5_=>r5_.elim λg dd=>?_
   exact⟨hk,L',o,hf,.inl st,keep _ _ g,dd⟩
 ·refine fs.elim λl r1_=>r1_.elim λhl h=>?_
  exact⟨_,l,by show A.frames.map _=_;rw[hl];rfl,rfl⟩
theorem fA.deep{A:aC}{env:Env}(r:fA (d+1) A):fA d (A.deeper env):=⟨by have:=r.depth;show A.depth+1+d<_;lia,by have:=r.units;show A.units+3+8*d+128<_;lia,λz=>r.hd (oA _)⟩
theorem fA.in1{A:aC}(r:fA d A):A.depth<recursionLimit:=by have:=r.depth;lia
noncomputable def OkK(P:dH)(Fl:iq)(d:Nat)(f:Value)(Dc:DC):Prop:=
 ∀(A:aC)(s:af)(Q:V→Hp→Prop)(X:XA)(hp:Hp)(stk:Addr→Prop)(vs:List V)(xs:List Value),fA d A→Fs A stk s→HeapOk P stk hp s→P.VRs stk hp s.heap vs xs→Dc vs Q X hp→
  codeAny P.M A (.call f ⟨xs,[]⟩) (λr s'=>match r with| .ok (.ret y)=>PostT P no1 stk hp s (PV P stk Q) y s'| .ok _=>False| .error e=>PostT P no1 stk hp s (lX Fl X) e s') s
theorem OkK.c{f:Value}{Dc:DC}(h:OkK P Fl d f Dc):OkC P Fl d f Dc:=λA s Q X hp stk vs xs rm fs ok r hD=>wpAny_call (h A s Q X hp stk vs xs rm fs ok r hD)
theorem OkK.up{f:Value}{Dc:DC}{d':Nat}(h:OkK P Fl d f Dc)(hd:d≤d'):OkK P Fl d' f Dc:=λA s Q X hp stk vs xs rm=>h A s Q X hp stk vs xs (rm.less hd)
theorem OkK.fun{mg mb:Str→Option Value}(tp:eL P mg mb){a:Addr}{fd:FuncData}{body:List Stmt}{bd:List V→Hp→Option (List (Nat×V))}{D:DS}(F:mZ P a fd body)(hb:BindOk P fd bd)
 (hids:∀vs hp ps,bd vs hp=some ps→(∀p∈ps,fd.scope.names.lookup (P.nm p.1)=some .local∨fd.scope.names.lookup (P.nm p.1)=some .cell)∧(ps.map λp=>P.nm p.1).Nodup)
 {ex:Nat→Value}(h:SimSs P (dy ex) d fd.scope body D):OkK P (dy ex) (d+1) (.ref a) (jm bd D):=by
 intro A s Q X hp stk vs xs rm fs ok r i1_;refine i1_.elim λps r2_=>r2_.elim λhps hD=>?_
 refine F.obj.elim λo r1_=>r1_.elim λho hdat=>?_
 refine(codeAny_call_function rm.in1 (ok.base _ _ ho) hdat F.cor F.gen F.body (F.code.keeps ok.base) ?_)
 refine hb _ s hp stk vs xs ps _ _ ok r hps λbs h1 kp br=>?_
 have ok1:HeapOk P stk hp {s with heap:=h1}:=ok.grow (tk:=s.toks) kp
 have e1:Ext no1 stk hp s hp {s with heap:=h1}:=Ext.grow (stk:=stk) (tk:=s.toks) kp
 obtain⟨hi,hpn⟩:=hids vs hp ps hps
 rw[F.clo]
 refine wpAny_newFunctionEnv_cells F.kind (λy hy=>?_) λenv he s' x=>?_
 ·have:y.1∈bs.map (·.1):=ay.mpr ⟨y,hy,rfl⟩
  rw[br.names]at this
  obtain⟨p,hp',e⟩:=ay.mp this
  rw[←e]
  rcases hi p hp' with q|q
  ·exact .inl q
  ·refine(cellsFrom_bound fd.scope.names (h1.objs.size+1) [] (P.nm p.1) (mem_of_lookup' q)).elim λc r1_=>r1_.elim λe2 r2_=>r2_.elim λu u=>?_
   exact .inr ⟨q,by rw[show({s with heap:=h1}:af).heap.objs.size=h1.objs.size from rfl,e2];rfl⟩
 ·subst he
  have x':InCallC {s with heap:=h1} (callEnvC fd h1.objs.size a).locals (bindL (callEnvC fd h1.objs.size a).kindOf bs λu=>none) (callEnvC fd h1.objs.size a).cells (bindC (callEnvC fd h1.objs.size a).kindOf bs λu=>none) s':=x
  refine(AH F (fs.step e1) ok1 br hi hpn x').elim λstk' r1_=>r1_.elim λsub r2_=>r2_.elim λfresh r3_=>r3_.elim λe2 r4_=>r4_.elim λok2 r5_=>r5_.elim λev2 hst=>?_
  refine⟨(tp.lim.keeps ok2.base),codeAny_func ?_⟩
  have e2':Ext (ip (callEnvC fd h1.objs.size a)) stk' hp {s with heap:=h1} hp s':=e2.of1.more sub hst
  refine wpAny_mono (h _ (callEnvC fd h1.objs.size a) s' _ _ (locOf ps) hp stk' rm.deep rfl ev2 ok2 hD) (λf s3 hq=>?_) λe s3 hq=>?_
  rotate_left
  ·obtain⟨hp3,e3,ok3,k,l,ev3,hx,hf⟩:=hq
   refine ev3.top.elim λe0 r1_=>r1_.elim λr0 r2_=>r2_.elim λhfr hf0=>?_
   refine wo (own:=ip (callEnvC fd h1.objs.size a)) ev3.frs hfr hf0 ok3 hf λhp4 s4 e4 ok4 hf4=>?_
   exact⟨hp4,e1.trans (Ext.to1 ((e2'.trans e3).trans e4) fresh hst sub),ok4.sub sub,k,hx,hf4⟩
  obtain⟨hp3,e3,ok3,w,loc3,ev3,q3,r3⟩:=hq
  have eF:Ext no1 stk hp s hp3 s3:=e1.trans (Ext.to1 (e2'.trans e3) fresh hst sub)
  have okF:=ok3.sub sub
  have back:∀v y,P.VR stk' hp3 s3.heap v y→P.VR stk hp3 s3.heap v y:=λv y r=>r.keep λa o f g=>⟨⟨f.1,λz=>f.2 (sub a z)⟩,g⟩
  cases w<;>cases f<;>first|exact r3.elim|exact q3.elim|skip
  ·exact⟨hp3,eF,okF,.none,q3,vNone⟩
  ·exact⟨hp3,eF,okF,_,q3,back _ _ r3⟩
noncomputable def bdPos(ids:List Nat):List V→Hp→Option (List (Nat×V)):=λvs z=>if vs.length=ids.length then some (ids.zip vs)else ae
theorem BindOk.pos{fd:FuncData}{ids:List Nat}(hb:∀xs:List Value,xs.length=ids.length→bindArgs fd ⟨xs,[]⟩=pure ((ids.map P.nm).zip xs)):BindOk P fd (bdPos ids):=by
 intro A s hp stk vs xs ps Q E ok r h q
 unfold bdPos at h
 split at h
 ·rename_i hl
  cases h
  have hx:=r.length
  rw[hb xs (by lia)]
  refine wpAny_pure (q _ s.heap (λ_ _ e=>e) ?_)
  clear hb q
  induction ids generalizing vs xs with
  |nil=>simp[BRe]
  |cons i ids ih=>
   cases vs with
   |nil=>simp at hl
   |cons v vs=>
    obtain⟨y,ys,rfl,p,q⟩:=r
    dsimp only[List.zip_cons_cons,ar,BRe]
    exact⟨y,_,rfl,p,ih vs ys q (by simpa using hl) (by simpa using hx)⟩
 ·cases h
end Mine
namespace Mine
variable{P:dH}{Fl:iq}{d:Nat}{sc:Scope}
noncomputable def eN(vs:List V)(k:Int):Option V:=if 0≤k then vs[k.toNat]? else if -(vs.length:Int)≤k then vs[(k+vs.length).toNat]? else ae
noncomputable def sw(es:List (Int×V))(k:Int):Option V:=(es.find? λe=>e.1=k).map (·.2)
noncomputable def sM(es:List (Int×V))(k:Int)(v:V):List (Int×V):=if es.any (λe=>decide (e.1=k))then es.map (λe=>if e.1=k then(e.1,v)else e)else es++[(k,v)]
noncomputable def eDel(es:List (Int×V))(k:Int):List (Int×V):=es.filter λe=>decide (e.1≠k)
theorem ER.at{F:Addr→Prop}{h:Heap}{k:Int}:∀{es:List (Int×V)}{kvs:List (Int×Value)}{v:V},ER P.nm F h es kvs→sw es k=some v→∃y,valueAt kvs k=some y∧Mine.VR P.nm F h v y:=by
 intro xs_
 induction xs_ with
 |nil=>
  intro kvs v r e
  cases e
 |cons e_ es ih=>
  obtain⟨i,u⟩:=e_
  intro kvs v r e
  obtain⟨y,ys,rfl,p,q⟩:=r
  unfold sw at e
  unfold valueAt
  by_cases hk:i=k
  ·simp only[cF,hk,decide_true,dE]at e⊢
   cases e
   exact⟨y,rfl,p⟩
  ·simp only[cF,hk,decide_false]at e⊢
   exact ih q e
theorem ER.none{F:Addr→Prop}{h:Heap}{k:Int}:∀{es:List (Int×V)}{kvs:List (Int×Value)},ER P.nm F h es kvs→sw es k=ae→valueAt kvs k=ae:=by
 intro xs_
 induction xs_ with
 |nil=>
  intro kvs r e
  cases r;rfl
 |cons e_ es ih=>
  obtain⟨i,u⟩:=e_
  intro kvs r e
  refine r.elim λy r1_=>r1_.elim λys r2_=>r2_.elim λe3_ r4_=>r4_.elim λp q=>?_;subst e3_
  unfold sw at e
  unfold valueAt
  by_cases hk:i=k
  ·simp[cF,hk]at e
  ·simp only[cF,hk,decide_false]at e⊢
   exact ih q e
theorem ER.length{F:Addr→Prop}{h:Heap}:∀{es:List (Int×V)}{kvs:List (Int×Value)},ER P.nm F h es kvs→kvs.length=es.length:=by
 intro xs_
 induction xs_ with
 |nil=>
  intro kvs r
  cases r;rfl
 |cons e_ es ih=>
  obtain⟨i,u⟩:=e_
  intro kvs r
  obtain⟨y,ys,rfl,p,q⟩:=r
  simp[ih q]
theorem ER.any{F:Addr→Prop}{h:Heap}{k:Int}:∀{es:List (Int×V)}{kvs:List (Int×Value)},ER P.nm F h es kvs→kvs.any (λkv=>kv.1=k)=es.any (λe=>decide (e.1=k)):=by
 intro xs_
 induction xs_ with
 |nil=>
  intro kvs r
  cases r;rfl
 |cons e_ es ih=>
  obtain⟨i,u⟩:=e_
  intro kvs r
  obtain⟨y,ys,rfl,p,q⟩:=r
  simp[ih q]
theorem ER.append{F:Addr→Prop}{h:Heap}{k:Int}{v:V}{y:Value}(hv:Mine.VR P.nm F h v y):∀{es:List (Int×V)}{kvs:List (Int×Value)},ER P.nm F h es kvs→ER P.nm F h (es++[(k,v)]) (kvs++[(k,y)]):=by
 intro xs_
 induction xs_ with
 |nil=>
  intro kvs r
  cases r;dsimp only[a8,ERe];exact⟨y,[],rfl,hv,rfl⟩
 |cons e_ es ih=>
  obtain⟨i,u⟩:=e_
  intro kvs r
  obtain⟨z,ys,rfl,p,q⟩:=r
  dsimp only[dq,ERe]
  exact⟨z,_,rfl,p,ih q⟩
theorem ER.map{F:Addr→Prop}{h:Heap}{k:Int}{v:V}{y:Value}(hv:Mine.VR P.nm F h v y):∀{es:List (Int×V)}{kvs:List (Int×Value)},ER P.nm F h es kvs→ER P.nm F h (es.map (λe=>if e.1=k then(e.1,v)else e)) (kvs.map (λkv=>if kv.1=k then(kv.1,y)else kv)):=by
 intro xs_
 induction xs_ with
 |nil=>
  intro kvs r
  cases r;simp only[dR,ERe]
 |cons e_ es ih=>
  obtain⟨i,u⟩:=e_
  intro kvs r
  obtain⟨z,ys,rfl,p,q⟩:=r
  simp only[ar]
  by_cases hk:i=k
  ·simp only[hk,if_true,ERe]
   exact⟨y,_,rfl,hv,ih q⟩
  ·simp only[hk,if_false,ERe]
   exact⟨z,_,rfl,p,ih q⟩
theorem ER.set{F:Addr→Prop}{h:Heap}{k:Int}{v:V}{y:Value}(hv:Mine.VR P.nm F h v y){es:List (Int×V)}{kvs:List (Int×Value)}(r:ER P.nm F h es kvs):ER P.nm F h (sM es k v) (stored kvs k y):=by
 delta sM stored
 rw[r.any]
 split
 ·exact r.map hv
 ·exact r.append hv
theorem ER.del{F:Addr→Prop}{h:Heap}{k:Int}:∀{es:List (Int×V)}{kvs:List (Int×Value)},ER P.nm F h es kvs→ER P.nm F h (eDel es k) (without kvs k)
 | [],kvs,r=>by cases r;simp only[eDel,without,p7,ERe]
 |(i,u)::es,kvs,r=>by
  obtain⟨z,ys,rfl,p,q⟩:=r
  have ih:=ER.del (k:=k) q
  unfold eDel without at ih⊢
  by_cases hk:i=k
  ·simp only[aU,hk,ne_eq,not_true_eq_false,decide_false]
   simpa using ih
  ·simp only[aU,hk,ne_eq,not_false_eq_true,decide_true,if_true,ERe]
   exact⟨z,_,rfl,p,ih⟩
noncomputable def bw:B2:=λo i Q hp=>∃k,i= .int k∧match o with
 | .tup vs=>vs.length≤lim∧∃v,eN vs k=some v∧Q v hp
 | .ref a=>match hp a with
   |some (.dict es _)=>∃v,sw es k=some v∧Q v hp
   |some (.lst vs)=>vs.length≤lim∧∃v,eN vs k=some v∧Q v hp
   |_=>False
 | .lst vs=>vs.length≤lim∧∃v,eN vs k=some v∧Q v hp
 |_=>False
theorem VRs.item{F:Addr→Prop}{h:Heap}{vs:List V}{xs:Array Value}{k:Int}{v:V}(r:VRs P.nm F h vs xs.toList)(e:eN vs k=some v):
 ∃y,Mine.VR P.nm F h v y∧((0≤k∧k<vs.length∧xs[k.toNat]?=some y)∨(k<0∧ -(xs.size:Int)≤k∧xs[(k+xs.size).toNat]?=some y)):=by
 have hl:=r.length
 have hz:xs.size=vs.length:=by rw[←hl];simp
 unfold eN at e
 split at e
 ·rename_i h0
  refine(r.get e).elim λy r1_=>r1_.elim λe' p=>?_
  have:=(bA.mp e).1
  exact⟨y,p,.inl ⟨h0,by omega,by simpa using e'⟩⟩
 ·split at e
  ·rename_i h0 h1
   refine(r.get e).elim λy r1_=>r1_.elim λe' p=>?_
   exact⟨y,p,.inr ⟨by omega,by rw[hz];exact h1,by rw[hz];simpa using e'⟩⟩
  ·cases e
theorem getItem_listI{A:aC}{s:af}{a:Addr}{xs:Array Value}{k:Int}{t:Tok}{y:Value}{n:Nat}{Q:Value→af→Prop}{E:Value→af→Prop}(hl:s.heap.PlainList a xs)(hn:xs.size≤lim)
 (h:(0≤k∧k<n∧xs[k.toNat]?=some y)∨(k<0∧ -(xs.size:Int)≤k∧xs[(k+xs.size).toNat]?=some y))(hq:Q y s):wpAny P.M A (getItem (.ref a) (.int k t)) Q E s:=by
 unfold lim at hn
 rcases h with⟨h0,_,h1⟩|⟨h0,h1,h2⟩
 ·have:k.toNat<xs.size:=(dB.mp h1).1
  exact wpAny_getItem_list hl.isList h0 (by omega) h1 hq
 ·exact wpAny_getItem_list_neg hl.isList h0 h1 (by omega) h2 hq
theorem se{A:aC}{s:af}{a:Addr}{xs:Array Value}{k:Int}{t:Tok}{y:Value}{n:Nat}{Q:Value→af→Prop}{E:Value→af→Prop}(hl:vR s.heap a xs)(hn:xs.size≤lim)
 (h:(0≤k∧k<n∧xs[k.toNat]?=some y)∨(k<0∧ -(xs.size:Int)≤k∧xs[(k+xs.size).toNat]?=some y))(hq:Q y s):wpAny P.M A (getItem (.ref a) (.int k t)) Q E s:=by
 unfold lim at hn
 refine hl.elim λn g=>?_
 rcases h with⟨h0,_,h1⟩|⟨h0,h1,h2⟩
 ·have:k.toNat<xs.size:=(dB.mp h1).1
  exact Gd ⟨_,g,rfl,_,rfl⟩ (by omega) (by omega) (seqIndex_of h0 (by omega)) h1 hq
 ·exact Gd ⟨_,g,rfl,_,rfl⟩ (by omega) (by omega) (seqIndex_neg h0 h1) h2 hq
theorem wt{A:aC}{s:af}{hp:Hp}{stk:Addr→Prop}{v u:V}{x y:Value}{Q:V→Hp→Prop}{X:XA}{value slice:Expr}(ok:HeapOk P stk hp s)(rv:P.VR stk hp s.heap v x)(ru:P.VR stk hp s.heap u y)(h:bw v u Q hp)
 (hs:∀o i,∃ops,subscripted slice false o i=operate ops (getItem o i)):T P no1 stk A (subscriptTail value slice x y) hp s (PV P stk Q) (lX Fl X):=by
 obtain⟨k,rfl,h⟩:=h
 obtain⟨t,rfl⟩:=ru
 have lists:∀vs,cg hp v=some vs→(vs.length≤lim∧∃v,eN vs k=some v∧Q v hp)→T P no1 stk A (subscriptTail value slice x (.int k t)) hp s (PV P stk Q) (lX Fl X):=by
  rintro vs hv ⟨hl,u,hu,q⟩
  obtain⟨a,xs,rfl,p,r⟩:=bz ok rv hv
  refine(r.item hu).elim λy r1_=>r1_.elim λry hy=>?_
  refine(hs (.ref a) (.int k t)).elim λops hs=>?_
  refine zV p.isList.typeIs CU.lookup (getItem_listI p ?_ hy (here ok q ry)) hs
  have:=r.length;have h2:xs.size=xs.toList.length:=rfl
  omega
 cases v with
 |lst vs=>exact lists vs rfl h
 |tup vs=>
  obtain⟨hl,u,hu,q⟩:=h
  obtain⟨a,xs,rfl,_,p,r⟩:=rv
  refine(r.item hu).elim λy r1_=>r1_.elim λry hy=>?_
  refine(hs (.ref a) (.int k t)).elim λops hs=>?_
  refine(id p).elim λn g=>?_
  refine zV (T:= "tuple") ⟨_,g,rfl⟩ slot_tuple_getitem.lookup (se p ?_ hy (here ok q ry)) hs
  have:=r.length;have h2:xs.size=xs.toList.length:=rfl
  omega
 |ref a=>
  change (match hp a with|some (.dict es _)=>∃v,sw es k=some v∧Q v hp|some (.lst vs)=>vs.length≤lim∧∃v,eN vs k=some v∧Q v hp|_=>False)at h
  cases o:hp a with
  |none=>rw[o]at h;exact h.elim
  |some ob=>
   rw[o]at h
   cases ob with
   |lst vs=>exact lists vs (listOf_ref o) h
   |dict es ep=>
    refine h.elim λu r1_=>r1_.elim λhu q=>?_
    cases rv
    refine(ok.obj a _ o).elim λkvs r1_=>r1_.elim λhd er=>?_
    replace hd:=hd.dictOf
    obtain⟨y,hy,ry⟩:=er.at hu
    refine(hs (.ref a) (.int k t)).elim λops hs=>?_
    exact zV hd.mapOf.typeIs slot_dict_getitem.lookup (wpAny_getItem_of (kr _ _ _ _) hd.mapOf hy (gY ok q ry)) hs
   |_=>exact h.elim
 |_=>exact h.elim
theorem Sim.item{value slice:Expr}{pos:Pos}{dv di:DE}(hv:bU P Fl d sc value dv)(hi:bU P Fl d sc slice di)(hs:∀o i,∃ops,subscripted slice false o i=operate ops (getItem o i)):bU P Fl d sc (.Subscript value slice pos) (aZ bw dv di):=by
 intro A env s Q X loc hp stk rm hs' ev ok h
 refine Subscript_ ?_
 refine(hv A env s _ X loc hp stk rm hs' ev ok h).thn λa hp1 s1 e1 ok1 hq=>?_
 obtain⟨v,q1,r1⟩:=hq
 refine wpAny_mono (hi A env s1 _ X loc hp1 stk rm hs' (ev.step ok e1) ok1 q1) (λy s2 hq=>?_) λx x z=>z.back P e1
 obtain⟨hp2,e2,ok2,u,q2,r2⟩:=hq
 exact T.nxt (e1.trans e2) (wt ok2 (fE e2 r1) r2 q2 hs)
noncomputable def SimO(P:dH)(Fl:iq)(d:Nat)(sc:Scope)(e:Option Expr)(D:DE):Prop:=
 ∀(A:aC)(env:Env)(s:af)(Q:V→Hp→Prop)(X:XA)(loc:bk)(hp:Hp)(stk:Addr→Prop),
  fA d A→env.scope=sc→EnvOk P A stk hp env loc s→HeapOk P stk hp s→D Q X loc hp→
  T P no1 stk A (evalPart e env) hp s (PV P stk Q) (lX Fl X)
theorem SimO.some{e:Expr}{D:DE}(h:bU P Fl d sc e D):SimO P Fl d sc (some e) D:=h
theorem SimO.none:SimO P Fl d sc ae (aQ .none):=λA env s Q X loc hp stk rm hs ev ok hD=>wpAny_pure (here ok hD vNone)
noncomputable def jT:V→Option (Option Int)
 | .none=>some ae
 | .int i=>some (some i)
 |_=>ae
noncomputable def oy(vs:List V)(lo hi st:Option Int):List V:=let (a,b,c):=sliceBounds lo hi st vs.length;(sliceRange a b c).filterMap (vs[·]?)
theorem VRs.cut{F:Addr→Prop}{h:Heap}{vs:List V}{xs:Array Value}{lo hi st:Option Int}(r:VRs P.nm F h vs xs.toList):VRs P.nm F h (oy vs lo hi st) (slicePick xs lo hi st).toList:=by
 have hl:=r.length
 have hz:xs.size=vs.length:=by rw[←hl];simp
 delta oy slicePick
 rw[hz]
 simp only[]
 generalize sliceRange _ _ _=is
 induction is with
 |nil=>simp[VRse]
 |cons i is ih=>
  cases hv:vs[i]? with
  |none=>
   have:xs[i]?=ae:=by
    rw[qy,hz];exact sk.mp hv
   simp only[wV,hv,this]
   exact ih
  |some v=>
   refine(r.get hv).elim λy r1_=>r1_.elim λe p=>?_
   have e':xs[i]?=some y:=by simpa using e
   simp only[wV,hv,e',VRse]
   exact⟨y,_,rfl,p,ih⟩
noncomputable def zU(o l u st:V)(Q:V→Hp→Prop)(hp:Hp):Prop:=∃vs lo hi k,cg hp o=some vs∧vs.length≤lim∧jT l=some lo∧jT u=some hi∧jT st=some k∧k≠some 0∧Q (.lst (oy vs lo hi k)) hp
noncomputable def kP(o l u st:DE):DE:=λQ X loc hp=>o (λov hp1=>l (λlv hp2=>u (λuv hp3=>st (λkv hp4=>zU ov lv uv kv Q hp4) X loc hp3) X loc hp2) X loc hp1) X loc hp
theorem nR{F:Addr→Prop}{h:Heap}{v:V}{x:Value}{o:Option Int}(r:Mine.VR P.nm F h v x)(e:jT v=some o):IsPart x o:=by
 cases v<;>first|(cases e;done)|skip
 ·cases r;cases e;exact .none
 ·obtain⟨t,rfl⟩:=r;cases e;exact .int _ _
theorem Sim.cut{value:Expr}{lo hi st:Option Expr}{p pos:Pos}{dv dl du dk:DE}(hv:bU P Fl d sc value dv)(hl:SimO P Fl d sc lo dl)(hu:SimO P Fl d sc hi du)(hk:SimO P Fl d sc st dk)
 (hs:∀o i,∃ops,subscripted (.Slice lo hi st p) false o i=operate ops (getItem o i)):bU P Fl d sc (.Subscript value (.Slice lo hi st p) pos) (kP dv dl du dk):=by
 intro A env s Q X loc hp stk rm hs' ev ok h
 refine Subscript_ ?_
 refine(hv A env s _ X loc hp stk rm hs' ev ok h).thn λx hp1 s1 e1 ok1 hq=>?_
 obtain⟨v,q1,r1⟩:=hq
 refine wpAny_Slice ?_
 refine wpAny_mono (hl A env s1 _ X loc hp1 stk rm hs' (ev.step ok e1) ok1 q1) (λyl s2 hq=>?_) λy y z=>z.back P e1
 obtain⟨hp2,e2,ok2,vl,q2,r2⟩:=hq
 have e12:=e1.trans e2
 refine wpAny_mono (hu A env s2 _ X loc hp2 stk rm hs' (ev.step ok e12) ok2 q2) (λyu s3 hq=>?_) λy y z=>z.back P e12
 obtain⟨hp3,e3,ok3,vu,q3,r3⟩:=hq
 have e13:=e12.trans e3
 refine wpAny_mono (hk A env s3 _ X loc hp3 stk rm hs' (ev.step ok e13) ok3 q3) (λyk s4 hq=>?_) λy y z=>z.back P e13
 obtain⟨hp4,e4,ok4,vk,⟨vs,lo',hi',k',h1,hn,h2,h3,h4,h0,q4⟩,r4⟩:=hq
 have e14:=e13.trans e4
 have pl:=nR r2 h2
 have pu:=nR r3 h3
 have pk:=nR r4 h4
 obtain⟨a,xs,rfl,pp,rr⟩:=bz ok4 (fE (e2.trans (e3.trans e4)) r1) h1
 let sl:Obj:={cls:=.type "slice",data:=.fields #[yl,yu,yk]}
 have g5:∀b o,s4.heap.get? b=some o→(s4.heap.push sl).get? b=some o:=λb o e=>an _ e
 have ok5:HeapOk P stk hp4 {s4 with heap:=s4.heap.push sl}:=ok4.grow (tk:=s4.toks) g5
 have e5:Ext no1 stk hp4 s4 hp4 {s4 with heap:=s4.heap.push sl}:=Ext.grow (stk:=stk) (tk:=s4.toks) g5
 obtain⟨ops,hs⟩:=hs (.ref a) (.ref s4.heap.objs.size)
 have pp':=pp.at (h':=s4.heap.push sl) λo g=>g5 _ _ g
 refine zV (FP (s:={s4 with heap:=s4.heap.push sl}) pp'.isList) CU.lookup (wpAny_getItem_list_slice pp'.isList (C7 ..) pl pu pk h0 ?_ ?_) hs
 ·exact(j7 (tk:=s4.toks) ok5 (iQ g5 rr.cut) q4).back P (e14.trans e5)
 ·have:=rr.length;have h2:xs.size=xs.toList.length:=rfl
  have:=fB
  omega
end Mine
namespace Mine
variable{P:dH}{Fl:iq}{d:Nat}{sc:Scope}{ex:Nat→Value}
theorem EnvOk.around{A A':aC}{stk:Addr→Prop}{hp:Hp}{env:Env}{loc:bk}{s:af}(ev:EnvOk P A stk hp env loc s)(h:A'.frames=A.frames):EnvOk P A' stk hp env loc s:=
 ⟨ev.kind,ev.glob,ev.blt,ev.ns,ev.cell,ev.stkL,ev.stkC,ev.cells,ev.apart,ev.apartL,ev.frs.around h,(by obtain⟨e0,r,a,b⟩:=ev.top;exact⟨e0,r,h.trans a,b⟩)⟩
noncomputable def NameIs(P:dH)(sc:Scope)(e:Expr)(c:Value):Prop:=
 ∀(A:aC)(env:Env)(s:af)(loc:bk)(hp:Hp)(stk:Addr→Prop)(Q:Value→af→Prop)(E:Value→af→Prop),env.scope=sc→EnvOk P A stk hp env loc s→HeapOk P stk hp s→Q c s→wpAny P.M A (eval e env) Q E s
theorem NameIs.glob{mg mb:Str→Option Value}(tp:eL P mg mb){x:Str}{pos:Pos}{v:Value}(hk:sc.names.lookup x=some .globalImplicit)(hd:(x==("__debug__" :Str))=false)(hv:mg x=some v):NameIs P sc (.Name x pos) v:=by
 intro A env s loc hp stk Q E hs ev ok hq
 refine wpAny_Name ?_ hd
 have hkind:env.kindOf x=some .globalImplicit:=by rw[←hk,←hs];rfl
 rw[ly ev.kind hkind]
 refine qh (mg:=mg) ?_ hv hq
 rw[ev.glob];exact tp.g.keeps ok.base
theorem NameIs.built{mg mb:Str→Option Value}(tp:eL P mg mb){x:Str}{pos:Pos}{v:Value}(hk:sc.names.lookup x=some .globalImplicit)(hd:(x==("__debug__" :Str))=false)(hm:mg x=ae)(hv:mb x=some v):NameIs P sc (.Name x pos) v:=by
 intro A env s loc hp stk Q E hs ev ok hq
 refine wpAny_Name ?_ hd
 have hkind:env.kindOf x=some .globalImplicit:=by rw[←hk,←hs];rfl
 rw[ly ev.kind hkind]
 refine CG (mg:=mg) (mb:=mb) ?_ hm ?_ hv hq
 ·rw[ev.glob];exact tp.g.keeps ok.base
 ·rw[ev.blt];exact tp.b.keeps ok.base
noncomputable def zN(P:dH)(cls c:Value):Prop:=
 ∀(A:aC)(s:af)(ea:Addr)(tr:Option Addr)(fl:Value)(Q:Bool→af→Prop)(E:Value→af→Prop),(∀b o,P.H₀.get? b=some o→s.heap.get? b=some o)→ExcAt cls ea tr fl s.heap→Q true s→wpAny P.M A (excMatches (.ref ea) c) Q E s
theorem zN.built{X T:String}(hexc:isSubtype (.type T) (.type "BaseException")=pure true)(hnt:isSubtype (.type ((GU T).elim "type" λx=>x.metatype)) (.type "tuple")=pure false)(hsub:isSubtype (.type X) (.type T)=pure true):zN P (.type X) (.type T):=by
 intro A s ea tr fl Q E hb x q
 obtain⟨oe,vs,a0,g,hc,_⟩:=x
 exact wpAny_excMatches_type ⟨oe,g,hc⟩ hexc hnt hsub q
theorem zN.own{x:Str}{C:Addr}{bm:List Value}{newId:String}{mg:Str→Option Value}(O:EU x C bm newId mg P.H₀)(hb:bm.contains (.type "BaseException")=true):zN P (.ref C) (.ref C):=by
 intro A s ea tr fl Q E hk z q
 obtain⟨oe,vs,a0,g,hc,_⟩:=z
 obtain⟨tl,N,nm,qn,bs,hdct,sn,sub,ab,col,dd,k0,k1,k2,k3,k5,mN,hC,hN,hni,TL⟩:=(O.keeps hk).obj
 obtain⟨hh,gg,dr,t,os⟩:=s
 exact wpAny_excMatches_sub_self hC g hc (TL.hasType hb) q
theorem fA.zero{A:aC}(r:fA d A)(h:Option Value):fA 0 (A.mark h):=⟨by have:=r.depth;show A.depth+0<_;lia,by have:=r.units;show A.units+8*0+128<_;lia,λz=>absurd z (dh _)⟩
noncomputable def zO(k0:Nat)(b h:DS):DS:=λQ X loc hp=>b Q (λk loc' hp'=>k=k0∧h Q o8 loc' hp') loc hp
theorem SimS.try{body suite:List Stmt}{b₀:Stmt}{x:Expr}{hpos pos:Pos}{k0:Nat}{c:Value}{Db Dh:DS}(hb:SimSs P (dy ex) d sc body Db)(hn:NameIs P sc x c)(hm:zN P (ex k0) c)(hh:SimSs P (dy ex) 0 sc (b₀::suite) Dh):
 SimS P (dy ex) d sc (.Try body [.ExceptHandler (some x) ae (b₀::suite) hpos] [] [] pos) (zO k0 Db Dh):=by
 intro A env s Q X loc hp stk rm hs ev ok hD
 suffices key:∀(R:Flow→af→Prop)(E:Value→af→Prop),(∀f s',PostT P (ip env) stk hp s (QS P A stk env Q) f s'→R f s')→wpAny P.M A (exec (.Try body [.ExceptHandler (some x) ae (b₀::suite) hpos] [] [] pos) env) R E s from key _ _ λv v z=>z
 intro R E hR
 refine wpAny_Try_except (wpAny_mono (hb A env s _ _ loc hp stk rm hs ev ok hD) (λf s1 hq=>?_) λe s1 hq=>?_)
 ·obtain⟨hp1,e1,ok1,w,loc1,ev1,q1,r1⟩:=hq
  revert q1
  refine BH.inv r1 (λq1=>?_) (λq1=>?_) (λq1=>?_) (λu y r1 q1=>?_)
  ·exact tH (hR _ _ ⟨hp1,e1,ok1,.next,loc1,ev1,q1,trivial⟩)
  ·exact hR _ _ ⟨hp1,e1,ok1,.brk,loc1,ev1,q1,trivial⟩
  ·exact hR _ _ ⟨hp1,e1,ok1,.cont,loc1,ev1,q1,trivial⟩
  ·exact hR _ _ ⟨hp1,e1,ok1,.ret _,loc1,ev1,q1,r1⟩
 ·obtain⟨hp1,e1,ok1,k,loc1,ev1,⟨hk,hx⟩,hf⟩:=hq
  obtain⟨kk,hpk⟩:=k
  subst hk
  obtain⟨ea,tr,rfl,hea,hT,rfl,xa⟩:=hf
  obtain⟨e0,r0,hfr,hf0⟩:=ev1.top
  refine ta (own:=no1) ev1.frs hfr hf0 ok1 hea hT xa λT L h2 hpT e2 ok2 x2=>?_
  refine flightStep (own:=no1) ok2 x2 λh3 e3 ok3 x3=>?_
  have e13:=e2.trans e3
  have ev3:=ev1.step ok1 e13
  have evm:EnvOk P (A.mark (some (.ref ea))) stk _ env loc1 {s1 with heap:=h3}:=ev3.around rfl
  refine wpAny_handleBy_cons (codeAny_handlers_test (hn _ env _ loc1 _ stk _ _ hs evm ok3 ?_)) (by intro q;cases q)
  refine hm _ _ ea (some T) .none _ _ ok3.base x3 (codeAny_handlers_suite ?_)
  refine flightStep (own:=no1) (s:={s1 with heap:=h3}) ok3 x3 λh4 e4 ok4 x4=>?_
  refine x4.elim λv r2_=>r2_.elim λv r4_=>r4_.elim λv r6_=>r6_.elim λv r8_=>r8_.elim λv r10_=>r10_.elim λv r12_=>r12_.elim λv r14_=>r14_.elim λv r16_=>r16_.elim λv r18_=>r18_.elim λhTe v=>?_
  have ok5:=(ok4.drop T).drop ea
  have e5:Ext no1 stk _ {s1 with heap:=h4} (del (del (o9 hpk ea (some T)) T) ea) {s1 with heap:=h4}:=(Ext.drop (own:=no1) (stk:=stk) T).trans (Ext.drop (own:=no1) (stk:=stk) ea)
  have hdel:del (del (o9 hpk ea (some T)) T) ea=hpk:=by
   simp only[o9]
   rw[oV (by rw[upd_ne hTe];exact hpT),oV hea]
  rw[hdel]at ok5 e5
  have eT:=(e13.trans e4).trans e5
  have ev5:EnvOk P (A.mark (some (.ref ea))) stk hpk env loc1 {s1 with heap:=h4}:=(ev1.step ok1 eT).around rfl
  refine wpAny_mono (hh _ env _ _ o8 loc1 hpk stk (rm.zero _) hs ev5 ok5 hx) (λf s6 hq=>?_) (by rintro _ _ ⟨_,_,_,_,_,_,z,_⟩;exact z.elim)
  obtain⟨hp6,e6,ok6,w,loc6,ev6,q6,r6⟩:=hq
  exact hR _ _ ⟨hp6,(e1.trans eT.of1).trans e6,ok6,w,loc6,ev6.around rfl,q6,r6⟩
noncomputable def t5(k:Nat)(a:lV):DS:=λQ X loc hp=>a (λvs hp1=>vs.length≤lim∧X k loc hp1) (λk hp'=>X k loc hp') loc hp
theorem ve{own stk:Addr→Prop}{hp:Hp}{s:af}{h':Heap}{e:Addr}{cls:Value}{args:List Value}{k:Nat}(ok:HeapOk P stk hp s)(hm:BC s.heap h' e cls args)(hex:ex k=cls):
 ∃hp',Ext own stk hp s hp' {s with heap:=h'}∧HeapOk P stk hp' {s with heap:=h'}∧dy ex (k,hp) (.ref e) hp' {s with heap:=h'}:=by
 refine hm.there.elim λt r1_=>r1_.elim λg r2_=>r2_.elim λgt g2=>?_
 refine⟨upd hp e .fld,Ext.track (tk:=s.toks) hm.keeps hm.new,ok.track (tk:=s.toks) hm.keeps hm.new ⟨_,_,g,rfl⟩,e,ae,rfl,(fz_of_new ok hm.new).1,λT z=>(nomatch z),rfl,_,_,.ref t,g,hex.symm,rfl,rfl,by simp,rfl⟩
theorem SimS.raise{x:Str}{np cpos pos:Pos}{es:List Expr}{k:Nat}{C:Addr}{B newId initId:String}{bm:List Value}{mg:Str→Option Value}{D:lV}(hd:0<d)(hn:NameIs P sc (.Name x np) (.ref C))(O:EU x C bm newId mg P.H₀)(FB:ExcBaseFacts B newId initId bm)(hex:ex k= .ref C)
 (hr:SimR P (dy ex) d sc cpos es D)(hplain:∀env,(backTo cpos (starEach es env)).any (·.1)=false):SimS P (dy ex) d sc (.Raise (some (.Call (.Name x np) es [] cpos)) ae pos) (t5 k D):=by
 intro A env s Q X loc hp stk rm hs ev ok hD
 refine O.obj.elim λtl r1_=>r1_.elim λN r2_=>r2_.elim λnm r3_=>r3_.elim λq r4_=>r4_.elim λbs r5_=>r5_.elim λhdct r6_=>r6_.elim λsn r7_=>r7_.elim λsub r8_=>r8_.elim λab r9_=>r9_.elim λcol r10_=>r10_.elim λdd r11_=>r11_.elim λk0 r12_=>r12_.elim λk1 r13_=>r13_.elim λk2 r14_=>r14_.elim λk3 r15_=>r15_.elim λk5 r16_=>r16_.elim λmN r17_=>r17_.elim λhC r18_=>r18_.elim λhN r19_=>r19_.elim λhni TL=>?_
 refine wpAny_Raise_call_subT (C:=C) (nm:=nm) (q:=q) (N:=N) (bs:=bs) (bm:=tl) (hdct:=hdct) (sn:=sn) (sub:=sub) (ab:=ab) (col:=col) (dd:=dd) (k0:=k0) (k1:=k1) (k2:=k2) (k3:=k3) (k5:=k5)
  FB (mN:=mN) (TL.hasType FB.hasBase) (rm.hd hd) (hplain env) hni (hn A env s loc hp stk _ _ hs ev ok ⟨rfl,?_⟩)
 refine wpAny_mono (hr (.ref C) A env s _ _ loc hp stk rm hs ev ok hD) (λa s2 hq=>?_) (by rintro e s1 ⟨hp1,e1,ok1,kk,hx,hf⟩;exact⟨hp1,e1.of1,ok1,kk,loc,ev.step ok e1,hx,hf⟩)
 obtain⟨hp2,e2,ok2,hkw,vs,⟨hl,hx⟩,r⟩:=hq
 refine⟨hkw,?_,ok2.base _ _ hC,hN.keeps ok2.base,TL.keeps ok2.base,λh' e hm=>?_⟩
 ·have:=r.length;have:=fB;lia
 ·refine(ve (own:=no1) (k:=k) ok2 hm hex).elim λhp3 r1_=>r1_.elim λe3 r2_=>r2_.elim λok3 f3=>?_
  exact⟨hp3,(e2.trans e3).of1,ok3,(k,hp2),loc,ev.step ok (e2.trans e3),hx,f3⟩
theorem SimS.never{st:Stmt}:SimS P Fl d sc st (λz z z z=>False):=λA env s Q X loc hp stk rm hs ev ok hD=>hD.elim
end Mine
set_option maxRecDepth 4000
namespace Mine
variable{P:dH}{Fl:iq}{d:Nat}{sc:Scope}{ex:Nat→Value}
noncomputable def k6:V→Bool
 | .fn _=>false
 |_=>true
theorem ua{F:Addr→Prop}{h:Heap}{v:V}{y:Value}(r:Mine.VR P.nm F h v y)(n:k6 v=true):handedIn y=true:=by
 cases v<;>simp only[VRe]at r
 ·subst r;rfl
 ·subst r;rfl
 ·obtain⟨t,rfl⟩:=r;rfl
 ·obtain⟨t,rfl⟩:=r;rfl
 ·obtain⟨a,xs,rfl,_⟩:=r;rfl
 ·obtain⟨a,xs,rfl,_⟩:=r;rfl
 ·obtain⟨a,_,_,rfl,_⟩:=r;rfl
 ·subst r;rfl
 ·cases n
 ·obtain⟨a,_,_,_,rfl,_⟩:=r;rfl
 ·obtain⟨a,rfl,_⟩:=r;rfl
 ·obtain⟨a,rfl,_⟩:=r;rfl
theorem qc.at{F:Addr→Prop}{h:Heap}:∀{fs:List (Nat×V)}{m:Str→Option Value}{i:Nat}{v:V},qc P.nm F h fs m→fs.lookup i=some v→∃y,m (P.nm i)=some y∧Mine.VR P.nm F h v y:=by
 intro xs_
 induction xs_ with
 |nil=>
  intros;simp_all
 |cons e_ fs ih=>
  obtain⟨j,u⟩:=e_
  intro m i v r e
  simp only[VRfe]at r
  rw[eG]at e
  cases q:i==j with
  |true=>rw[q]at e;cases e;have:i=j:=by simpa using q
         subst this;exact r.1
  |false=>rw[q]at e;exact ih r.2 e
structure ClsP(K:Frag)(C:Addr):Prop where
 ga:findIn K (.ref C) "__getattribute__" =some (some (.builtin "object.__getattribute__"))
 sa:findIn K (.ref C) "__setattr__" =some (some (.builtin "object.__setattr__"))
 ov:plainOver K C=true
 gt:findIn K (.ref C) "__getattr__" =some ae
structure sH(K:Frag)(C:Addr)(n:Str):Prop extends ClsP K C where
 free:findIn K (.ref C) n=some ae
 hd:(clsIn K C).any (·.hasDict)=true
theorem wk{es:Array DictEntry}{m:Nat}{n:Str}{y:Value}{c:Value}(h:nsFind es n=some y):lookIn n {cls:=c,data:=.dict es m}=some (some y):=by
 unfold nsFind findBy at h
 unfold lookIn
 dsimp only
 rw[wZ]
 cases q:C0 (λe=>e.key.isStr n) es with
 |none=>rw[q]at h;cases h
 |some e=>rw[q]at h;cases h;rfl
theorem findObj_own{K:Frag}{C:Addr}{n:Str}(c:sH K C n){od:Obj}{y:Value}(h:lookIn n od=some (some y)):findObj K C (some od) n=some (.value y):=by
 refine(any_some c.hd).elim λcd r1_=>r1_.elim λhc hh=>?_
 unfold findObj
 rw[hc,d7,c.free,d7]
 simp only[d7,W.ownOf,hh,if_true,h]
theorem getD{A:aC}{s:af}{a dd C:Addr}{m:Str→Option Value}{cc:Nat}{n:Str}{y:Value}{b:Bool}{Q:Value→af→Prop}{E:Value→af→Prop}(X:P.K.In s.heap)(c:sH P.K C n)(ha:s.heap.get? a=some {cls:=.ref C,dict:=some dd})(hn:vJ s.heap dd m cc)(hy:m n=some y)(hh:handedIn y=true)
 (q:Q y {s with toks:=s.toks+1}):wpAny P.M A (getAttr (.ref a) n b) Q E s:=by
 refine hn.elim λes r1_=>r1_.elim λk r2_=>r2_.elim λg r3_=>r3_.elim λz r5_=>r5_.elim λz hf=>?_
 exact get_value X ⟨ha,rfl,rfl,g⟩ c.ga (findObj_own c (wk ((hf n).trans hy))) hh q
noncomputable def b4(C:Addr)(i:Nat):V→(V→Hp→Prop)→Hp→Prop:=λo Q hp=>match o with
 | .ref a=>∃dd fs v,hp a=some (.inst C dd)∧hp dd=some (.ns fs)∧fs.lookup i=some v∧k6 v=true∧Q v hp
 | .obj C' fs=>C'=C∧∃v,fs.lookup i=some v∧k6 v=true∧Q v hp
 |_=>False
theorem qT{mg mb:Str→Option Value}(tp:eL P mg mb){C:Addr}{i:Nat}(c:sH P.K C (P.nm i)){A:aC}{s:af}{hp:Hp}{stk:Addr→Prop}{v:V}{x:Value}{b:Bool}{Q:V→Hp→Prop}{X:XP}(ok:HeapOk P stk hp s)(r:P.VR stk hp s.heap v x)(h:b4 C i v Q hp):
 T P no1 stk A (getAttr x (P.nm i) b) hp s (PV P stk Q) X:=by
 have X:=tp.kin.keeps ok.base
 cases v<;>first|exact h.elim|skip
 ·obtain⟨rfl,u,hu,hn,q⟩:=h
  obtain⟨a,dd,m,rfl,_,_,g,ns,rf,_⟩:=r
  refine(rf.at hu).elim λy r1_=>r1_.elim λhy ry=>?_
  exact getD X c g ns hy (ua ry hn) (gY ok q ry)
 ·obtain⟨dd,fs,u,h1,h2,hu,hn,q⟩:=h
  cases r
  have g:=ok.obj _ _ h1
  refine(ok.obj _ _ h2).elim λm r1_=>r1_.elim λns r2_=>r2_.elim λrf z=>?_
  obtain⟨y,hy,ry⟩:=rf.at hu
  exact getD X c g ns hy (ua ry hn) (gY ok q ry)
noncomputable def cX(f:V→(V→Hp→Prop)→Hp→Prop)(o:DE):DE:=λQ X loc hp=>o (λv hp1=>f v Q hp1) X loc hp
theorem Sim.attr{mg mb:Str→Option Value}(tp:eL P mg mb){C:Addr}{i:Nat}{n:Str}(hi:P.nm i=n)(c:sH P.K C n){o:Expr}{pos:Pos}{D:DE}(h:bU P Fl d sc o D)(hb:∀env,attributeBase o n env (eval o env)=eval o env:=by exact λw=>rfl):bU P Fl d sc (.Attribute o n pos) (cX (b4 C i) D):=by
 subst hi
 intro A env s Q X loc hp stk rm hs ev ok hD
 rw[T,kF,hb env]
 refine wpAny_bind ((h A env s _ X loc hp stk rm hs ev ok hD).thn λx hp1 s1 e1 ok1 hq=>?_)
 obtain⟨v,q,r⟩:=hq
 refine wpAny_bind (wpAny_standAt (wpAny_bind (wpAny_holding (wpAny_mono (qT tp c (X:=lX Fl X) ok1 r q) (λy s2 z=>?_) λw w z=>z.back P e1))))
 exact wpAny_bind (jG (wpAny_pure (z.back P e1)))
structure A8(K:Frag)(C:Addr)(n:Str)(k:Nat):Prop extends ClsP K C where
 p:∃p,(∀od,findObj K C od n=some (.bind (.builtin "member_descriptor.__get__") (.ref p)))∧slotIn K p C=some k∧takerIn K C n=some (some (.ref p))∧typeIn K (.ref p)=some (.type "member_descriptor")
 lt:k<1000
theorem SR.at{F:Addr→Prop}{h:Heap}:∀{vs:List (Option V)}{xs:List (Option Value)}{k:Nat}{v:V},SR P.nm F h vs xs→vs[k]?=some (some v)→∃y,xs[k]?=some (some y)∧Mine.VR P.nm F h v y
 |u::vs,xs,0,v,r,e=>by
  obtain⟨y,ys,rfl,p,q⟩:=r
  simp only[List.getElem?_cons_zero,eJ]at e
  subst e
  cases y with
  |none=>exact p.elim
  |some y=>exact⟨y,rfl,p⟩
 |u::vs,xs,k+1,v,r,e=>by
  obtain⟨y,ys,rfl,p,q⟩:=r
  simpa using SR.at q (by simpa using e)
noncomputable def iy(C:Addr)(k:Nat):V→(V→Hp→Prop)→Hp→Prop:=λo Q hp=>match o with
 | .ref a=>∃vs v,hp a=some (.sl C vs)∧vs[k]?=some (some v)∧k6 v=true∧Q v hp
 |_=>False
theorem qD{mg mb:Str→Option Value}(tp:eL P mg mb){C:Addr}{n:Str}{k:Nat}(c:A8 P.K C n k){A:aC}{s:af}{hp:Hp}{stk:Addr→Prop}{v:V}{x:Value}{b:Bool}{Q:V→Hp→Prop}{X:XP}(ok:HeapOk P stk hp s)(r:P.VR stk hp s.heap v x)(h:iy C k v Q hp):
 T P no1 stk A (getAttr x n b) hp s (PV P stk Q) X:=by
 have X':=tp.kin.keeps ok.base
 refine c.p.elim λp r1_=>r1_.elim λhf r2_=>r2_.elim λhsl r3_=>r3_.elim λz z=>?_
 cases v<;>first|exact h.elim|skip
 refine h.elim λvs r1_=>r1_.elim λu r2_=>r2_.elim λh1 r3_=>r3_.elim λhu r4_=>r4_.elim λhn q=>?_
 cases r
 refine(ok.obj _ _ h1).elim λxs r1_=>r1_.elim λdd r2_=>r2_.elim λod r3_=>r3_.elim λg r4_=>r4_.elim λfd r5_=>r5_.elim λgd sr=>?_
 refine(sr.at hu).elim λy r1_=>r1_.elim λhy ry=>?_
 have I:InstAt s.heap _ _ C (some od):=⟨g,rfl,rfl,gd⟩
 refine get_bind X' I c.ga (hf _) c.gt ?_
 refine wpAny_call (slot_get (s:={s with toks:=s.toks+1}) X' I hsl (v:=y) ?_ ?_)
 ·show(xs[k]?).join=some y
  rw[←cL,hy];rfl
 ·show wpAny _ _ (handedOut y) _ _ _
  rw[yq (ua ry hn)]
  exact wpAny_pure (gY ok q ry)
theorem Sim.slot{mg mb:Str→Option Value}(tp:eL P mg mb){C:Addr}{n:Str}{k:Nat}(c:A8 P.K C n k){o:Expr}{pos:Pos}{D:DE}(h:bU P Fl d sc o D)(hb:∀env,attributeBase o n env (eval o env)=eval o env:=by exact λw=>rfl):bU P Fl d sc (.Attribute o n pos) (cX (iy C k) D):=by
 intro A env s Q X loc hp stk rm hs ev ok hD
 rw[T,kF,hb env]
 refine wpAny_bind ((h A env s _ X loc hp stk rm hs ev ok hD).thn λx hp1 s1 e1 ok1 hq=>?_)
 obtain⟨v,q,r⟩:=hq
 refine wpAny_bind (wpAny_standAt (wpAny_bind (wpAny_holding (wpAny_mono (qD tp c (X:=lX Fl X) ok1 r q) (λy s2 z=>?_) λw w z=>z.back P e1))))
 exact wpAny_bind (jG (wpAny_pure (z.back P e1)))
theorem DD{M:Model}{A:aC}{s:af}{dd:Addr}{m:Str→Option Value}{c:Nat}{n:Str}{v:Value}{Q:Unit→af→Prop}{E:Value→af→Prop}(hn:vJ s.heap dd m c)
 (q:∀h',vJ h' dd (λx=>if x=n then some v else m x) (if(m n).isSome then c else c+1)→bP dd s.heap h'→Q () {s with heap:=h',toks:=s.toks+1}):wpAny M A (nsSet dd n v) Q E s:=by
 refine hn.elim λes r1_=>r1_.elim λk r2_=>r2_.elim λg r3_=>r3_.elim λhz r4_=>r4_.elim λhk hf=>?_
 have hany:es.any (·.refKey)=false:=by
  rw[Array.any_eq_false'];intro e he;obtain⟨n,t,h⟩:=hk e he;simp[uS,h]
 unfold nsSet
 refine wpAny_bind (wpAny_bind (DW (wpAny_pure (wpAny_bind (GD (wpAny_bind (uq g ?_)))))))
 dsimp only
 rw[aRefKeyMayBeTheName_at,hany,Bool.and_false,if_neg (by decide)]
 refine DR g (q _ ?_ (bS ..))
 have fi:=findBy_of_findIdx? (λ(n:Str) v=>v.isStr n) es n
 cases hi:es.findIdx? (·.key.isStr n)with
 |some i=>
  have hs:(m n).isSome=true:=by
   rw[←hf n]
   show(findBy (λ(n:Str) v=>v.isStr n) es n).isSome=true
   rw[fi,hi]
   have:=(Array.findIdx?_eq_some_iff_getElem.mp hi).1
   simp[this]
  rw[if_pos hs]
  refine⟨_,k,cj _ g (by simp only[mx,jZ,hi];rfl) |>.trans (by simp only[mx,jZ,hi];rfl),by rw[Array.size_modify];exact hz,hk.modify _ _,λx=>?_⟩
  show _=if x=n then some v else m x
  rw[←hf];exact findBy_modify (λn v=>v.isStr n) Value.isStr_inj es n x v i hi
 |none=>
  have hs:(m n).isSome=false:=by
   rw[←hf n]
   show(findBy (λ(n:Str) v=>v.isStr n) es n).isSome=false
   rw[fi,hi];rfl
  rw[hs]
  refine⟨_,k+1,cj _ g (by simp only[mx,jZ,hi];rfl) |>.trans (by simp only[mx,jZ,hi];rfl),by rw[Array.size_push];simpa using hz,hk.push _ _ _ _,λx=>?_⟩
  show _=if x=n then some v else m x
  rw[←hf]
  exact findBy_push (λn v=>v.isStr n) es n x _ _ v (λy=>by
   show(n==y)=decide (y=n)
   by_cases h:y=n
   ·subst h;simp
   ·have:¬n=y:=λe=>h e.symm
    simp[h,this]) hi
noncomputable def kl(fs:List (Nat×V))(i:Nat)(v:V):List (Nat×V):=if fs.any (λp=>decide (p.1=i))then fs.map (λp=>if p.1=i then(p.1,v)else p)else fs++[(i,v)]
theorem qc.set(inj:∀i j,P.nm i=P.nm j→i=j){F:Addr→Prop}{h:Heap}{i:Nat}{v:V}{y:Value}(hv:Mine.VR P.nm F h v y):∀{fs:List (Nat×V)}{m:Str→Option Value},qc P.nm F h fs m→qc P.nm F h (fs.map (λp=>if p.1=i then(p.1,v)else p)) (λx=>if x=P.nm i then some y else m x):=by
 intro xs_
 induction xs_ with
 |nil=>
  intro m _
  simp only[dR,VRfe]
 |cons e_ fs ih=>
  obtain⟨j,u⟩:=e_
  intro m r
  simp only[VRfe]at r
  simp only[ar]
  by_cases hj:j=i
  ·simp only[hj,if_true,VRfe]
   exact⟨⟨y,rfl,hv⟩,ih r.2⟩
  ·simp only[hj,if_false,VRfe]
   refine⟨?_,ih r.2⟩
   obtain⟨z,e,q⟩:=r.1
   exact⟨z,by rw[if_neg (λe=>hj (inj _ _ e))];exact e,q⟩
theorem qc.add(inj:∀i j,P.nm i=P.nm j→i=j){F:Addr→Prop}{h:Heap}{i:Nat}{v:V}{y:Value}(hv:Mine.VR P.nm F h v y):∀{fs:List (Nat×V)}{m:Str→Option Value},qc P.nm F h fs m→fs.any (λp=>decide (p.1=i))=false→qc P.nm F h (fs++[(i,v)]) (λx=>if x=P.nm i then some y else m x):=by
 intro xs_
 induction xs_ with
 |nil=>
  intro m _ _
  dsimp only[a8,VRfe];exact⟨⟨y,by simp,hv⟩,trivial⟩
 |cons e_ fs ih=>
  obtain⟨j,u⟩:=e_
  intro m r a
  simp only[VRfe]at r
  simp only[kh,Bool.or_eq_false_iff,decide_eq_false_iff_not]at a
  simp only[dq,VRfe]
  refine⟨?_,ih r.2 a.2⟩
  obtain⟨z,e,q⟩:=r.1
  exact⟨z,by rw[if_neg (λe=>a.1 (inj _ _ e))];exact e,q⟩
theorem Ap(inj:∀i j,P.nm i=P.nm j→i=j){F:Addr→Prop}{h h':Heap}{dd:Addr}{i:Nat}{v:V}{y:Value}{fs:List (Nat×V)}{m:Str→Option Value}(hv:Mine.VR P.nm F h' v y)(rf:qc P.nm F h' fs m)(cov:∀n z,m n=some z→∃p∈fs,P.nm p.1=n)
 (hn:vJ h' dd (λx=>if x=P.nm i then some y else m x) (if(m (P.nm i)).isSome then fs.length else fs.length+1)):OR P.nm P.prog P.w F h' dd (.ns (kl fs i v)):=by
 refine⟨λx=>if x=P.nm i then some y else m x,?_,?_,?_⟩
 ·have hl:(kl fs i v).length=if(m (P.nm i)).isSome then fs.length else fs.length+1:=by
   unfold kl
   cases a:fs.any (λp=>decide (p.1=i))with
   |true=>
    obtain⟨p,hp,e⟩:=kL.mp a
    have e':p.1=i:=by simpa using e
    have:(m (P.nm i)).isSome=true:=by
     clear hn cov hv
     induction fs with
     |nil=>cases hp
     |cons q fs ih=>
      obtain⟨j,u⟩:=q
      simp only[VRfe]at rf
      rcases am.mp hp with z|z
      ·subst z;refine rf.1.elim λy' r1_=>r1_.elim λe2 t=>?_;simp only at e';subst e';rw[e2];rfl
      ·exact ih rf.2 (kL.mpr ⟨p,z,e⟩) z
    simp[this]
   |false=>
    have:(m (P.nm i)).isSome=false:=by
     cases q:m (P.nm i)with
     |none=>rfl
     |some z=>
      refine(cov _ _ q).elim λp r1_=>r1_.elim λhp e=>?_
      have:=zC.mp a p hp
      simp only[decide_eq_true_eq]at this
      exact absurd (inj _ _ e) this
    simp[this]
  rw[hl];exact hn
 ·unfold kl
  cases a:fs.any (λp=>decide (p.1=i))with
  |true=>simpa using rf.set inj hv
  |false=>simpa using rf.add inj hv a
 ·intro n z hz
  by_cases q:n=P.nm i
  ·subst q
   unfold kl
   cases a:fs.any (λp=>decide (p.1=i))with
   |true=>
    refine(kL.mp a).elim λp r1_=>r1_.elim λhp e=>?_
    have e':p.1=i:=by simpa using e
    exact⟨(p.1,v),by simp only[if_true];exact ay.mpr ⟨p,hp,by simp[e']⟩,by rw[e']⟩
   |false=>exact⟨(i,v),by simp,rfl⟩
  ·have hz:m n=some z:=by rw[←hz];exact(if_neg q).symm
   refine(cov _ _ hz).elim λp r1_=>r1_.elim λhp e=>?_
   have ne:p.1≠i:=λz=>q (by rw[←e,z])
   unfold kl
   cases a:fs.any (λp=>decide (p.1=i))with
   |true=>exact⟨p,by simp only[if_true];exact ay.mpr ⟨p,hp,by simp[ne]⟩,e⟩
   |false=>exact⟨p,by simp[hp],e⟩
theorem setD{A:aC}{s:af}{a dd C:Addr}{m:Str→Option Value}{cc:Nat}{n:Str}{y:Value}{Q:Unit→af→Prop}{E:Value→af→Prop}(X:P.K.In s.heap)(c:sH P.K C n)(ha:s.heap.get? a=some {cls:=.ref C,dict:=some dd})(hn:vJ s.heap dd m cc)(hc:cc≤1000)
 (q:∀h' tk,vJ h' dd (λx=>if x=n then some y else m x) (if(m n).isSome then cc else cc+1)→bP dd s.heap h'→Q () {s with heap:=h',toks:=tk}):wpAny P.M A (setAttr (.ref a) n y) Q E s:=by
 refine(id hn).elim λes r1_=>r1_.elim λk r2_=>r2_.elim λg r3_=>r3_.elim λhz r4_=>r4_.elim λhk hf=>?_
 have I:InstAt s.heap a _ C (some _):=⟨ha,rfl,rfl,g⟩
 refine(any_some c.hd).elim λcd r1_=>r1_.elim λhcd hh=>?_
 refine set_plain X I c.sa ?_
 have ht:takerIn P.K C n=some ae:=by unfold takerIn;rw[c.free];rfl
 refine osa_open (s:={s with toks:=s.toks+1}) X I c.ov ht λb=>?_
 refine wpAny_bind (wpAny_pure (wpAny_bind (wpAny_bind (uq ha (wpAny_bind ((GS (M:=P.M) (h:=({s with toks:=s.toks+1}:af).heap) X hcd).here ?_))))))
 rw[hh]
 refine wpAny_pure (a:=some dd) (wpAny_bind (wpAny_pure (wpAny_bind ?_)))
 refine DD (s:={s with toks:=s.toks+1}) hn λh' hn' hs'=>?_
 obtain⟨es',k',g',hz',_⟩:=id hn'
 refine wpAny_bind (wpAny_lookBehind g' (pastItsLine_dict ?_) (wpAny_pure (q h' _ hn' hs')))
 rw[jF]
 split at hz'<;>lia
noncomputable def go(C:Addr)(i:Nat):V→V→(Hp→Prop)→Hp→Prop:=λo v Q hp=>match o with
 | .ref a=>∃dd fs,hp a=some (.inst C dd)∧hp dd=some (.ns fs)∧fs.length≤1000∧Q (upd hp dd (.ns (kl fs i v)))
 |_=>False
theorem wb(inj:∀i j,P.nm i=P.nm j→i=j){mg mb:Str→Option Value}(tp:eL P mg mb){C:Addr}{i:Nat}(c:sH P.K C (P.nm i)){A:aC}{s:af}{hp:Hp}{stk:Addr→Prop}{o v:V}{x y:Value}{Q:Hp→Prop}{X:XP}(ok:HeapOk P stk hp s)(ro:P.VR stk hp s.heap o x)(rv:P.VR stk hp s.heap v y)(h:go C i o v Q hp):
 T P no1 stk A (setAttr x (P.nm i) y) hp s (λw hp' s'=>Q hp') X:=by
 have X':=tp.kin.keeps ok.base
 cases o<;>first|exact h.elim|skip
 obtain⟨dd,fs,h1,h2,hl,q⟩:=h
 cases ro
 have g:=ok.obj _ _ h1
 obtain⟨m,ns,rf,cov⟩:=ok.obj _ _ h2
 refine setD X' c g ns hl λh' tk hn' hs'=>?_
 have hdd:hp dd≠ae:=by rw[h2];intro z;cases z
 have ky:bW (Fz stk hp) (Fz stk (upd hp dd (.ns (kl fs i v)))) s.heap h':=by
  intro b ob i1_ g;refine i1_.elim λe n=>?_
  have:b≠dd:=by rintro rfl;exact hdd e
  exact⟨⟨by rw[upd_ne this];exact e,n⟩,(hs'.2 b this).trans g⟩
 refine⟨upd hp dd (.ns (kl fs i v)),Ext.change ok h2 hs' (by obtain⟨es,k,g,_⟩:=hn';exact⟨_,g⟩),ok.change h2 hs' ?_,q⟩
 exact Ap inj (h:=s.heap) (rv.keep ky) (rf.keep ky) cov hn'
end Mine
namespace Mine
open PySem PySem.W PySem.Calls PyProof.Rows PySem.Builtin PySem.Builtin.ObjectAttr PySem.Builtin.Getset_descriptor
variable{P:dH}{Fl:iq}{d:Nat}{sc:Scope}{ex:Nat→Value}
noncomputable def sN(i:Nat)(v:Value)(o:Obj):Obj:={o with slots:=(o.slots++pR (i+1 - o.slots.size) none).setIfInBounds i (some v)}
theorem Aj{A:aC}{K:Frag}{prog:Program}{w:d5}{s:af}{x p C:Addr}{i:Nat}{ox:Obj}{od:Option Obj}{v:Value}{R:rc→af→Prop}(X:K.In s.heap)(I:InstAt s.heap x ox C od)(hp:slotIn K p C=some i)(hi:i<1000)
 (h:R (.ok (.ret .none)) {s with heap:=s.heap.update x (sN i v)}):codeAny (model prog w) A (.call (.builtin "member_descriptor.__set__") ⟨[.ref p,.ref x,v],[]⟩) R s:=by
 obtain⟨n,tn,owner,behind,tb,dd,sl,cd,ho,hc,hm,hb,rfl⟩:=slot_of X hp
 obtain⟨hh,g,dr,t,os⟩:=s
 have L0:=I.type (M:=model prog w)
 have L1:=looks_mroIn (M:=model prog w) X hm
 have L2:GP (model prog w) hh (Slots.slotNamesOf (.ref C)) cd.slotNames:=(GS X hc).andThen .now
 have hx:=I.at_
 dsimp only at ho hx L0 L1
 have f0:=sy (M:=model prog w) ho 0 (v:=.str n tn) rfl
 have f1:=sy (M:=model prog w) ho 1 (v:=owner) rfl
 have f3:=sy (M:=model prog w) ho 3 (v:=.builtin "proto.slot#set") rfl
 have f4:=sy (M:=model prog w) ho 4 (v:=.int behind tb) rfl
 refine nY vz.plain KF.entry_mset (vz.check _ _ _ _ _ _ _ _ ⟨_,ho,rfl⟩ (KF.args_mset _ _ _) ?_)
 unfold Builtin.«member_descriptor.__set__» descrSet descrStoreThrough descrCheckInstance descrNameAndClass isInstance
 have f5:GP (model prog w) hh (descrItself (.ref p)) [.ref p]:=((Fk (part:=none) ho).andThen .now).andThen (ka (by kernel_rfl))
 repeat lk
 refine⟨xd _ (by decide+kernel),Ej KF.entry_slotset ?_⟩
 unfold Builtin.«proto.slot#set» Slots.target
 repeat lk
 rw[if_neg hb]
 refine wpAny_pure (wpAny_bind ?_)
 unfold setSlotAt
 dsimp only
 rw[if_neg (by rw[jF];lia)]
 exact DR hx (wpAny_pure h)
noncomputable def lY(vs:List (Option V))(k:Nat)(v:V):List (Option V):=(vs++aB (k+1 - vs.length) ae).set k (some v)
theorem SR.length{F:Addr→Prop}{h:Heap}:∀{vs:List (Option V)}{xs:List (Option Value)},SR P.nm F h vs xs→xs.length=vs.length:=by
 intro xs_
 induction xs_ with
 |nil=>
  intro xs r
  cases r;rfl
 |cons u vs ih=>
  intro xs r
  obtain⟨y,ys,rfl,p,q⟩:=r
  simp[ih q]
theorem SR.pad{F:Addr→Prop}{h:Heap}{n:Nat}:∀{vs:List (Option V)}{xs:List (Option Value)},SR P.nm F h vs xs→SR P.nm F h (vs++aB n ae) (xs++aB n ae):=by
 intro xs_
 induction xs_ with
 |nil=>
  intro xs r
  cases r
  simp only[a8]
  induction n with
  |zero=>simp[SRe]
  |succ n ih=>dsimp only[cV,SRe];exact⟨_,_,rfl,trivial,ih⟩
 |cons u vs ih=>
  intro xs r
  obtain⟨y,ys,rfl,p,q⟩:=r
  dsimp only[dq,SRe]
  exact⟨y,_,rfl,p,ih q⟩
theorem SR.put{F:Addr→Prop}{h:Heap}{v:V}{y:Value}(hv:Mine.VR P.nm F h v y):∀{vs:List (Option V)}{xs:List (Option Value)}{k:Nat},SR P.nm F h vs xs→SR P.nm F h (vs.set k (some v)) (xs.set k (some y))
 | [],xs,k,r=>by cases r;simp[SRe]
 |u::vs,xs,0,r=>by
  obtain⟨z,ys,rfl,p,q⟩:=r
  dsimp only[w5,SRe]
  exact⟨_,_,rfl,hv,q⟩
 |u::vs,xs,k+1,r=>by
  obtain⟨z,ys,rfl,p,q⟩:=r
  dsimp only[w6,SRe]
  exact⟨_,_,rfl,p,SR.put hv q⟩
noncomputable def k8(C:Addr)(k:Nat):V→V→(Hp→Prop)→Hp→Prop:=λo v Q hp=>match o with
 | .ref a=>∃vs,hp a=some (.sl C vs)∧Q (upd hp a (.sl C (lY vs k v)))
 |_=>False
set_option tactic.hygienic true in
theorem v8{mg mb:Str→Option Value}(tp:eL P mg mb){C:Addr}{n:Str}{k:Nat}(c:A8 P.K C n k)(hset:C8 "member_descriptor" "__set__" "member_descriptor.__set__"){A:aC}{s:af}{hp:Hp}{stk:Addr→Prop}{o v:V}{x y:Value}{Q:Hp→Prop}{X:XP}(ok:HeapOk P stk hp s)(ro:P.VR stk hp s.heap o x)(rv:P.VR stk hp s.heap v y)(h:k8 C k o v Q hp):
 T P no1 stk A (setAttr x n y) hp s (λ_ hp' s'=>Q hp') X:=by
 have X':=tp.kin.keeps ok.base
 obtain⟨p,hf,hsl,htk,hty⟩:=c.p
 cases o<;>first|exact h.elim|skip
 rename_i a
 obtain⟨vs,h1,q⟩:=h
 cases ro
 obtain⟨xs,dd,od,g,fd,gd,sr⟩:=ok.obj _ _ h1
 have I:InstAt s.heap a _ C (some od):=⟨g,rfl,rfl,gd⟩
 refine set_plain X' I c.sa ?_
 refine osa_descr (s:={s with toks:=s.toks+1}) hset X' I c.ov htk hty ?_
 refine Aj (s:={s with toks:=s.toks+1}) X' I hsl c.lt ?_
 have sb:bP a s.heap (s.heap.update a (sN k y)):=bS ..
 have g':(s.heap.update a (sN k y)).get? a=some {cls:=.ref C,dict:=some dd,slots:=(xs++pR (k+1 - xs.size) none).setIfInBounds k (some y)}:=cj _ g rfl
 have ha:hp a≠ae:=by rw[h1];intro z;cases z
 have ky:bW (Fz stk hp) (Fz stk (upd hp a (.sl C (lY vs k v)))) s.heap (s.heap.update a (sN k y)):=by
  intro b ob i1_ g;refine i1_.elim λe n=>?_
  have:b≠a:=by rintro rfl;exact ha e
  exact⟨⟨by rw[upd_ne this];exact e,n⟩,(sb.2 b this).trans g⟩
 refine⟨upd hp a (.sl C (lY vs k v)),Ext.change (tk:=s.toks+1) ok h1 sb ⟨_,g'⟩,HeapOk.change (tk:=s.toks+1) ok h1 sb ?_,q⟩
 show OR P.nm P.prog P.w _ (s.heap.update a (sN k y)) a _
 refine⟨(xs++pR (k+1 - xs.size) none).setIfInBounds k (some y),dd,od,g',(ky _ _ fd gd).1,(ky _ _ fd gd).2,?_⟩
 have hl:=sr.length
 have hz:xs.size=vs.length:=by rw[←hl];simp
 rw[qw,jh,Array.toList_replicate,hz]
 exact SR.put (rv.keep ky) (SR.pad (sr.keep ky))
noncomputable def jE(f:V→V→(Hp→Prop)→Hp→Prop)(o:DE):DA:=λv Q X loc hp=>o (λov hp1=>f ov v (λhp2=>Q loc hp2) hp1) (λk hp'=>X k loc hp') loc hp
noncomputable def OkSet(P:dH)(n:Str)(f:V→V→(Hp→Prop)→Hp→Prop):Prop:=
 ∀(A:aC)(s:af)(hp:Hp)(stk:Addr→Prop)(o v:V)(x y:Value)(Q:Hp→Prop)(X:XP),HeapOk P stk hp s→P.VR stk hp s.heap o x→P.VR stk hp s.heap v y→f o v Q hp→T P no1 stk A (setAttr x n y) hp s (λz hp' s'=>Q hp') X
noncomputable def OkGet(P:dH)(n:Str)(f:V→(V→Hp→Prop)→Hp→Prop):Prop:=
 ∀(A:aC)(s:af)(hp:Hp)(stk:Addr→Prop)(o:V)(x:Value)(b:Bool)(Q:V→Hp→Prop)(X:XP),HeapOk P stk hp s→P.VR stk hp s.heap o x→f o Q hp→T P no1 stk A (getAttr x n b) hp s (PV P stk Q) X
theorem OkSet.dict(inj:∀i j,P.nm i=P.nm j→i=j){mg mb:Str→Option Value}(tp:eL P mg mb){C:Addr}{i:Nat}{n:Str}(hi:P.nm i=n)(c:sH P.K C n):OkSet P n (go C i):=by
 subst hi;exact λA s hp stk o v x y Q X ok ro rv h=>wb inj tp c ok ro rv h
theorem OkSet.slot{mg mb:Str→Option Value}(tp:eL P mg mb){C:Addr}{n:Str}{k:Nat}(c:A8 P.K C n k)(hset:C8 "member_descriptor" "__set__" "member_descriptor.__set__"):OkSet P n (k8 C k):=λA s hp stk o v x y Q X ok ro rv h=>v8 tp c hset ok ro rv h
theorem OkGet.dict{mg mb:Str→Option Value}(tp:eL P mg mb){C:Addr}{i:Nat}{n:Str}(hi:P.nm i=n)(c:sH P.K C n):OkGet P n (b4 C i):=by
 subst hi;exact λA s hp stk o x b Q X ok ro h=>qT tp c ok ro h
theorem OkGet.slot{mg mb:Str→Option Value}(tp:eL P mg mb){C:Addr}{n:Str}{k:Nat}(c:A8 P.K C n k):OkGet P n (iy C k):=λA s hp stk o x b Q X ok ro h=>qD tp c ok ro h
theorem SimG.attr{n:Str}{f:V→V→(Hp→Prop)→Hp→Prop}(hf:OkSet P n f){o:Expr}{pos:Pos}{D:DE}(h:bU P Fl d sc o D):SimG P Fl d sc (.Attribute o n pos) [] (jE f D):=by
 intro A env s Q X loc hp stk v x rm hs ev ok r hD
 rw[T,arm_assign_Attribute]
 refine wpAny_bind (wpAny_holding (wpAny_mono (h A env s _ _ loc hp stk rm hs ev ok hD) (λov s1 hq=>?_) (by rintro e s1 ⟨hp1,e1,ok1,kk,hx,hfl⟩;exact⟨hp1,e1.of1,ok1,kk,loc,ev.step ok e1,hx,hfl⟩)))
 obtain⟨hp1,e1,ok1,u,q,ru⟩:=hq
 refine wpAny_bind (wpAny_standAt (wpAny_bind (wpAny_holding (wpAny_mono (hf A s1 hp1 stk u v ov x _ (λy y y=>False) ok1 ru (fE e1 r) q) (λy s2 hq=>?_) (by rintro _ _ ⟨_,_,_,z⟩;exact z.elim)))))
 obtain⟨hp2,e2,ok2,q2⟩:=hq
 exact F5 ⟨hp2,(e1.trans e2).of1,ok2,loc,ev.step ok (e1.trans e2),q2⟩
noncomputable def vL(g:V→(V→Hp→Prop)→Hp→Prop)(f:V→V→(Hp→Prop)→Hp→Prop)(b:B2)(o e:DE):DS:=λQ X loc hp=>o (λov hp1=>g ov (λold hp2=>e (λu hp3=>b old u (λw hp4=>f ov w (λhp5=>Q .next loc hp5) hp4) hp3) (λk hp'=>X k loc hp') loc hp2) hp1) (λk hp'=>X k loc hp') loc hp
theorem SimS.aug{n:Str}{g:V→(V→Hp→Prop)→Hp→Prop}{f:V→V→(Hp→Prop)→Hp→Prop}{b:B2}{op:Operator}(hg:OkGet P n g)(hf:OkSet P n f)(hb:pc P Fl (inplaceOp op) b){o e:Expr}{tpos pos:Pos}{Do De:DE}(ho:bU P Fl d sc o Do)(he:bU P Fl d sc e De):SimS P Fl d sc (.AugAssign (.Attribute o n tpos) op e pos) (vL g f b Do De):=by
 intro A env s Q X loc hp stk rm hs ev ok hD
 refine wpAny_AugAssign_AttributeAny (E2 ho rm hs ev ok hD λov x hp1 s1 e1 ev1 ok1 q1 r1=>?_)
 refine wpAny_mono (hg A s1 hp1 stk ov x true _ (λy y y=>False) ok1 r1 q1) (λold s2 hq=>?_) (by rintro _ _ ⟨_,_,_,z⟩;exact z.elim)
 obtain⟨hp2,e2,ok2,ou,q2,r2⟩:=hq
 have e12:=e1.trans e2
 refine wpAny_mono (E2 (G:=λx s'=>∃v hp1,Ext no1 stk hp2 s2 hp1 s'∧HeapOk P stk hp1 s'∧_∧P.VR stk hp1 s'.heap v x) he rm hs (ev.step ok e12) ok2 q2 λv x hp3 s3 e3 ev3 ok3 q3 r3=>⟨v,hp3,e3,ok3,q3,r3⟩) (λu s3 hq=>?_) λy y z=>z.back P e12.of1
 obtain⟨v,hp3,e3,ok3,q3,r3⟩:=hq
 have e13:=e12.trans e3
 refine wpAny_mono (hb A s3 _ (λk hp'=>False) hp3 stk ou v old u (rm.less (bx _)) ok3 (fE e3 r2) r3 q3) (λw s4 hq=>?_) (by rintro _ _ ⟨_,_,_,_,z,_⟩;exact z.elim)
 obtain⟨hp4,e4,ok4,wv,q4,r4⟩:=hq
 have e14:=e13.trans e4
 refine wpAny_mono (hf A s4 hp4 stk ov wv x w _ (λy y y=>False) ok4 (fE (e2.trans (e3.trans e4)) r1) r4 q4) (λy s5 hq=>?_) (by rintro _ _ ⟨_,_,_,z⟩;exact z.elim)
 obtain⟨hp5,e5,ok5,q5⟩:=hq
 exact⟨hp5,(e14.trans e5).of1,ok5,.next,loc,ev.step ok (e14.trans e5),q5,trivial⟩
end Mine
namespace Mine
variable{P:dH}{Fl:iq}{d:Nat}{sc:Scope}{ex:Nat→Value}
theorem VRs.set{F:Addr→Prop}{h:Heap}{v:V}{y:Value}(hv:Mine.VR P.nm F h v y):∀{vs:List V}{xs:List Value}{k:Nat},VRs P.nm F h vs xs→VRs P.nm F h (vs.set k v) (xs.set k y)
 | [],xs,k,r=>by simp only[VRse]at r;subst r;simp[VRse]
 |u::vs,xs,0,r=>by
  simp only[VRse]at r
  obtain⟨z,ys,rfl,p,q⟩:=r
  dsimp only[w5,VRse]
  exact⟨_,_,rfl,hv,q⟩
 |u::vs,xs,k+1,r=>by
  simp only[VRse]at r
  obtain⟨z,ys,rfl,p,q⟩:=r
  dsimp only[w6,VRse]
  exact⟨_,_,rfl,p,VRs.set hv q⟩
theorem listChanged{own stk:Addr→Prop}{hp:Hp}{s:af}{a:Addr}{vs ws:List V}{h':Heap}{tk:Nat}{ys:Array Value}(ok:HeapOk P stk hp s)(ha:hp a=some (.lst vs))(sb:bP a s.heap h')(pl:h'.PlainList a ys)
 (r:bW (Fz stk hp) (Fz stk (upd hp a (.lst ws))) s.heap h'→VRs P.nm (Fz stk (upd hp a (.lst ws))) h' ws ys.toList):Ext own stk hp s (upd hp a (.lst ws)) {s with heap:=h',toks:=tk}∧HeapOk P stk (upd hp a (.lst ws)) {s with heap:=h',toks:=tk}:=by
 have ha':hp a≠ae:=by rw[ha];intro z;cases z
 have ky:bW (Fz stk hp) (Fz stk (upd hp a (.lst ws))) s.heap h':=by
  intro b ob i1_ g;refine i1_.elim λe n=>?_
  have:b≠a:=by rintro rfl;exact ha' e
  exact⟨⟨by rw[upd_ne this];exact e,n⟩,(sb.2 b this).trans g⟩
 exact⟨Ext.change ok ha sb (by obtain⟨n,g⟩:=pl;exact⟨_,g⟩),ok.change ha sb ⟨ys,pl,r ky⟩⟩
theorem oq{own stk:Addr→Prop}{hp:Hp}{s:af}{a:Addr}{es fs:List (Int×V)}{ep:Nat}{h':Heap}{tk:Nat}{kvs:List (Int×Value)}(ok:HeapOk P stk hp s)(ha:hp a=some (.dict es ep))(sb:bP a s.heap h')(dc:h'.DictOf (intKind P.prog P.w) a kvs)
 (r:∀ep',bW (Fz stk hp) (Fz stk (upd hp a (.dict fs ep'))) s.heap h'→ER P.nm (Fz stk (upd hp a (.dict fs ep'))) h' fs kvs):∃ep',Ext own stk hp s (upd hp a (.dict fs ep')) {s with heap:=h',toks:=tk}∧HeapOk P stk (upd hp a (.dict fs ep')) {s with heap:=h',toks:=tk}:=by
 have ha':hp a≠ae:=by rw[ha];intro z;cases z
 obtain⟨ep',dc'⟩:=dc.dictAt
 have ky:bW (Fz stk hp) (Fz stk (upd hp a (.dict fs ep'))) s.heap h':=by
  intro b ob i1_ g;refine i1_.elim λe n=>?_
  have:b≠a:=by rintro rfl;exact ha' e
  exact⟨⟨by rw[upd_ne this];exact e,n⟩,(sb.2 b this).trans g⟩
 exact⟨ep',Ext.change ok ha sb (by obtain⟨o,_,g,_⟩:=dc';exact⟨o,g⟩),ok.change ha sb ⟨kvs,dc',r ep' ky⟩⟩
theorem qm{A:aC}{s:af}{l:Addr}{items:Array Value}{k:Int}{t:Tok}{v:Value}{Q:Unit→af→Prop}{E:Value→af→Prop}(hp:s.heap.PlainList l items)(h0:0≤k)(hfit:k<2 ^ 63)(hn:k<items.size)
 (hQ:∀h',h'.PlainList l (items.setIfInBounds k.toNat v)→bP l s.heap h'→Q () {s with heap:=h'}):wpAny P.M A (setItem (.ref l) (.int k t) v) Q E s:=by
 refine hp.elim λn g=>?_
 have hT:s.TypeIs (.ref l) "list" :=⟨_,g,rfl⟩
 unfold setItem
 try with_reducible refine wpAny_holding ?_
 first|refine wpAny_bind (wpAny_pure ?_)|skip
 refine wpAny_bind (CS hT (by decide) ?_)
 refine wpAny_bind (wpAny_callSpecial?_slot (name:=ah "__setitem__") hT CT (jv CT hT entry_list_setitem ?_ (args_list_setitem _ _ _)))
 show wpAny _ _ (EI (.int k t)>>= _) _ _ s
 refine wpAny_bind (wpAny_listSubscript_int (fitsIndex_of h0 hfit) ?_)
 clear hfit
 obtain⟨j,rfl⟩:=Int.eq_ofNat_of_zero_le h0
 have hj:j<items.size:=by lia
 show wpAny _ _ ((seqItemAt l j>>= λr=>pure (r.map (j,·)))>>= _) _ _ s
 refine wpAny_bind (wpAny_bind (wpAny_seqItemAt g rfl (wpAny_pure ?_)))
 rw[Array.getElem?_eq_getElem hj]
 show wpAny _ _ (setSeqItemAt l j v>>= _) _ _ s
 have hfin:(s.heap.update l (dQ (·.setIfInBounds j v))).PlainList l (items.setIfInBounds j v):=⟨_,Fm (n:=n) g _⟩
 refine wpAny_bind (wpAny_setSeqItemAt g rfl ?_)
 first
  |exact wpAny_bind (wpAny_pure (wpAny_pure ⟨.none,rfl,wpAny_pure (hQ _ hfin (bS ..))⟩))
  |exact wpAny_pure ⟨.none,rfl,wpAny_pure (hQ _ hfin (bS ..))⟩
noncomputable def u5(o i v:V)(Q:Hp→Prop)(hp:Hp):Prop:=∃a k,o= .ref a∧i= .int k∧match hp a with
 |some (.lst vs)=>0≤k∧k<vs.length∧vs.length≤lim∧Q (upd hp a (.lst (vs.set k.toNat v)))
 |some (.dict es _)=>es.length≤lim∧∀ep',Q (upd hp a (.dict (sM es k v) ep'))
 |_=>False
theorem wa{A:aC}{s:af}{hp:Hp}{stk:Addr→Prop}{o i v:V}{x y z:Value}{Q:Hp→Prop}{X:XP}(ok:HeapOk P stk hp s)(ro:P.VR stk hp s.heap o x)(ri:P.VR stk hp s.heap i y)(rv:P.VR stk hp s.heap v z)(h:u5 o i v Q hp):
 T P no1 stk A (setItem x y z) hp s (λu hp' s'=>Q hp') X:=by
 obtain⟨a,k,rfl,rfl,h⟩:=h
 simp only[VRe]at ro ri
 subst ro
 obtain⟨t,rfl⟩:=ri
 cases ha:hp a with
 |none=>rw[ha]at h;exact h.elim
 |some ob=>
  rw[ha]at h
  cases ob with
  |lst vs=>
   obtain⟨h0,h1,hl,q⟩:=h
   refine(ok.obj _ _ ha).elim λxs r1_=>r1_.elim λe2_ r=>e2_.elim λn g=>?_
   have hz:xs.size=vs.length:=by rw[←r.length];simp
   unfold lim at hl
   have pl0:s.heap.PlainList a xs:=⟨n,g⟩
   refine qm pl0 h0 (by lia) (by lia) λh' pl sb=>?_
   obtain⟨e,ok'⟩:=listChanged (own:=no1) (tk:=s.toks) (ws:=vs.set k.toNat v) ok ha sb pl λky=>by
    rw[qw];exact VRs.set (rv.keep ky) (r.keep ky)
   exact⟨_,e,ok',q⟩
  |dict es ep=>
   obtain⟨hl,q⟩:=h
   refine(ok.obj _ _ ha).elim λkvs r1_=>r1_.elim λhd er=>?_
   replace hd:=hd.dictOf
   refine wpAny_setItem_pairs (knd:=intKind P.prog P.w) (k:=k) (kr _ _ _ _) hd (λh' hd' sb=>?_) ?_
   ·obtain⟨ep',e,ok'⟩:=oq (own:=no1) (tk:=s.toks+1) (fs:=sM es k v) ok ha sb hd' λep' ky=>ER.set (rv.keep ky) (er.keep ky)
    exact⟨_,e,ok',q ep'⟩
   ·have:=er.length;have:=fB;lia
  |_=>exact h.elim
noncomputable def pf(o i:DE):DA:=λv Q X loc hp=>o (λov hp1=>i (λiv hp2=>u5 ov iv v (λhp3=>Q loc hp3) hp2) (λk hp'=>X k loc hp') loc hp1) (λk hp'=>X k loc hp') loc hp
theorem SimG.item{o i:Expr}{pos:Pos}{Do Di:DE}(ho:bU P Fl d sc o Do)(hi:bU P Fl d sc i Di):SimG P Fl d sc (.Subscript o i pos) [] (pf Do Di):=by
 intro A env s Q X loc hp stk v x rm hs ev ok r hD
 rw[T,arm_assign_Subscript]
 refine wpAny_bind (wpAny_holding (wpAny_mono (ho A env s _ _ loc hp stk rm hs ev ok hD) (λov s1 hq=>?_) (by rintro e s1 ⟨hp1,e1,ok1,kk,hx,hfl⟩;exact⟨hp1,e1.of1,ok1,kk,loc,ev.step ok e1,hx,hfl⟩)))
 obtain⟨hp1,e1,ok1,u,q,ru⟩:=hq
 refine wpAny_bind (wpAny_holding (wpAny_mono (hi A env s1 _ _ loc hp1 stk rm hs (ev.step ok e1) ok1 q) (λiv s2 hq=>?_) (by rintro e s2 ⟨hp2,e2,ok2,kk,hx,hfl⟩;exact⟨hp2,(e1.trans e2).of1,ok2,kk,loc,ev.step ok (e1.trans e2),hx,hfl⟩)))
 obtain⟨hp2,e2,ok2,w,q2,rw2⟩:=hq
 refine wpAny_bind (wpAny_standAt (wpAny_bind (wpAny_holding (wpAny_mono (wa (X:=λy y y=>False) ok2 (fE e2 ru) rw2 (fE (e1.trans e2) r) q2) (λy s3 hq=>?_) (by rintro _ _ ⟨_,_,_,z⟩;exact z.elim)))))
 obtain⟨hp3,e3,ok3,q3⟩:=hq
 have eT:=(e1.trans e2).trans e3
 exact F5 ⟨hp3,eT.of1,ok3,loc,ev.step ok eT,q3⟩
noncomputable def xH(o i:V)(Q:Hp→Prop)(hp:Hp):Prop:=∃a k es ep,o= .ref a∧i= .int k∧hp a=some (.dict es ep)∧es.length≤lim∧(sw es k).isSome=true∧∀ep',Q (upd hp a (.dict (eDel es k) ep'))
noncomputable def BK(o i:DE):DS:=λQ X loc hp=>o (λov hp1=>i (λiv hp2=>xH ov iv (λhp3=>Q .next loc hp3) hp2) (λk hp'=>X k loc hp') loc hp1) (λk hp'=>X k loc hp') loc hp
theorem wD{A:aC}{s:af}{hp:Hp}{stk:Addr→Prop}{o i:V}{x y:Value}{Q:Hp→Prop}{X:XP}(ok:HeapOk P stk hp s)(ro:P.VR stk hp s.heap o x)(ri:P.VR stk hp s.heap i y)(h:xH o i Q hp):
 T P no1 stk A (delItem x y) hp s (λz hp' s'=>Q hp') X:=by
 obtain⟨a,k,es,ep,rfl,rfl,ha,hl,hs,q⟩:=h
 simp only[VRe]at ro ri
 subst ro
 obtain⟨t,rfl⟩:=ri
 refine(ok.obj _ _ ha).elim λkvs r1_=>r1_.elim λhd er=>?_
 replace hd:=hd.dictOf
 obtain⟨v,hv⟩:=qX.mp hs
 obtain⟨y,hy,_⟩:=er.at hv
 delta T delItem
 refine wpAny_holding ?_
 refine wpAny_bind (CS hd.typeIs (by decide) ?_)
 refine wpAny_bind (wpAny_callSpecial?_slot (name:=ah "__delitem__") hd.typeIs PySem.F.slot_dict_delitem
  (yr PySem.F.slot_dict_delitem hd.typeIs PySem.F.entry_dict_delitem (PySem.F.args_dict_delitem_2 _ _) (meets_dict_delitem_pairs (intKind P.prog P.w) a (k:=k) (kr _ _ _ _)) ⟨kvs,hd,?_,by rw[hy];rfl,λh' hd' sb=>?_⟩))
 ·have:=er.length;have:=fB;lia
 ·refine(oq (own:=no1) (tk:=s.toks+1) (fs:=eDel es k) ok ha sb hd' λep' ky=>ER.del (er.keep ky)).elim λep' r1_=>r1_.elim λe ok'=>?_
  exact wpAny_pure ⟨_,e,ok',q ep'⟩
theorem SimS.del{o i:Expr}{tp pos:Pos}{Do Di:DE}(ho:bU P Fl d sc o Do)(hi:bU P Fl d sc i Di):SimS P Fl d sc (.Delete [.Subscript o i tp] pos) (BK Do Di):=by
 intro A env s Q X loc hp stk rm hs ev ok hD
 refine wpAny_Delete (wpAny_deleteEach_cons (delete_Subscript (E2 ho rm hs ev ok hD λov x hp1 s1 e1 ev1 ok1 q1 r1=>?_)))
 refine wpAny_mono (hi A env s1 _ _ loc hp1 stk rm hs ev1 ok1 q1) (λiv s2 hq=>?_) (by rintro e s2 ⟨hp2,e2,ok2,kk,hx,hfl⟩;exact⟨hp2,(e1.trans e2).of1,ok2,kk,loc,ev.step ok (e1.trans e2),hx,hfl⟩)
 obtain⟨hp2,e2,ok2,w,q2,rw2⟩:=hq
 refine wpAny_mono (wD (X:=λy y y=>False) ok2 (fE e2 r1) rw2 q2) (λy s3 hq=>?_) (by rintro _ _ ⟨_,_,_,z⟩;exact z.elim)
 obtain⟨hp3,e3,ok3,q3⟩:=hq
 have eT:=(e1.trans e2).trans e3
 exact wpAny_deleteEach_nil ⟨hp3,eT.of1,ok3,.next,loc,ev.step ok eT,q3,trivial⟩
noncomputable def xq(i:Nat):DE:=λQ z loc hp=>∃a us,loc i=some (.ref a)∧hp a=some (.lst us)∧Q (.lst us) (del hp a)
theorem Sim.frz{i:Nat}{x:Str}{pos:Pos}(hx:P.nm i=x)(hk:(match sc.names.lookup x with|some .local=>true|some .cell=>true|some .free=>true|_=>false)=true)
 (hd:(x==("__debug__" :Str))=false)(hc:(x==("__classdict__" :Str))=false):bU P Fl d sc (.Name x pos) (xq i):=by
 rintro A env s Q X loc hp stk rm hs ev ok ⟨a,us,h1,h2,q⟩
 refine wpAny_mono (Sim.var (Fl:=Fl) (d:=d) hx hk hd hc A env s (λv hp'=>v= .ref a∧hp'=hp) X loc hp stk rm hs ev ok ⟨_,h1,rfl,rfl⟩) (λy s1 hq=>?_) λw w z=>z
 obtain⟨hp1,e1,ok1,v,⟨hv,hh⟩,r⟩:=hq
 subst hv hh
 simp only[VRe]at r
 subst r
 obtain⟨xs,pl,rx⟩:=ok1.obj _ _ h2
 refine⟨del hp1 a,e1.trans (Ext.drop a),ok1.drop a,.lst us,q,?_⟩
 simp only[VRe]
 have ky:bW (Fz stk hp1) (Fz stk (del hp1 a)) s1.heap s1.heap:=by
  intro b ob i1_ g;refine i1_.elim λe n=>?_
  refine⟨⟨?_,n⟩,g⟩
  by_cases z:b=a
  ·subst z;simp
  ·rw[del_ne z];exact e
 exact⟨a,xs,rfl,⟨by simp,ok1.apart a (by rw[h2];intro z;cases z)⟩,pl,rx.keep ky⟩
end Mine
namespace Mine
variable{P:dH}{Fl:iq}{d:Nat}{sc:Scope}{ex:Nat→Value}
noncomputable def cY(C:Addr)(j:Nat)(hp:Hp):V→Prop
 | .ref a=>∃dd fs,hp a=some (.inst C dd)∧hp dd=some (.ns fs)∧(fs.all λp=>decide (p.1≠j))=true
 | .obj C' fs=>C'=C∧(fs.all λp=>decide (p.1≠j))=true
 |_=>False
structure nA(K:Frag)(C:Addr)(n:Str)(f:Addr):Prop extends ClsP K C where
 fn:findIn K (.ref C) n=some (some (.ref f))
 ty:typeIn K (.ref f)=some (.type "function")
theorem tL{es:Array DictEntry}{m:Nat}{n:Str}{c:Value}(hk:StrKeys es)(h:nsFind es n=ae):lookIn n {cls:=c,data:=.dict es m}=some ae:=by
 unfold nsFind findBy at h
 unfold lookIn
 dsimp only
 rw[wZ]
 cases q:C0 (λe=>e.key.isStr n) es with
 |some e=>rw[q]at h;cases h
 |none=>
  have:es.toList.any (·.refKey)=false:=by
   rw[zC];intro e he;refine(hk e (by simpa using he)).elim λn r1_=>r1_.elim λt h=>?_;simp[uS,h]
  simp only[this];rfl
theorem qN(inj:∀i j,P.nm i=P.nm j→i=j){C:Addr}{j:Nat}{s:af}{hp:Hp}{stk:Addr→Prop}{v:V}{x:Value}(ok:HeapOk P stk hp s)(r:P.VR stk hp s.heap v x)(h:cY C j hp v):
 ∃a ox od,x= .ref a∧InstAt s.heap a ox C (some od)∧lookIn (P.nm j) od=some ae:=by
 have key:∀{dd:Addr}{fs:List (Nat×V)}{m:Str→Option Value}{c:Nat},vJ s.heap dd m c→(∀n y,m n=some y→∃p∈fs,P.nm p.1=n)→(fs.all λp=>decide (p.1≠j))=true→∃od,s.heap.get? dd=some od∧lookIn (P.nm j) od=some ae:=by
  intro dd fs m c i1_ cov hall;refine i1_.elim λes r2_=>r2_.elim λk r3_=>r3_.elim λg r4_=>r4_.elim λz r6_=>r6_.elim λhk hf=>?_
  refine⟨_,g,tL hk ?_⟩
  rw[hf]
  cases q:m (P.nm j)with
  |none=>rfl
  |some y=>
   refine(cov _ _ q).elim λp r1_=>r1_.elim λhp e=>?_
   have:=bY.mp hall p hp
   simp only[ne_eq,decide_not,gf,decide_eq_false_iff_not]at this
   exact absurd (inj _ _ e) this
 cases v<;>first|exact h.elim|skip
 ·obtain⟨rfl,hall⟩:=h
  obtain⟨a,dd,m,rfl,_,_,g,ns,rf,cov⟩:=r
  obtain⟨od,gd,hl⟩:=key ns cov hall
  exact⟨a,_,od,rfl,⟨g,rfl,rfl,gd⟩,hl⟩
 ·refine h.elim λdd r1_=>r1_.elim λfs r2_=>r2_.elim λh1 r3_=>r3_.elim λh2 hall=>?_
  cases r
  have g:=ok.obj _ _ h1
  refine(ok.obj _ _ h2).elim λm r1_=>r1_.elim λns r2_=>r2_.elim λrf cov=>?_
  refine(key ns cov hall).elim λod r1_=>r1_.elim λgd hl=>?_
  exact⟨_,_,od,rfl,⟨g,rfl,rfl,gd⟩,hl⟩
theorem Meth.own(inj:∀i j,P.nm i=P.nm j→i=j){mg mb:Str→Option Value}(tp:eL P mg mb){C f:Addr}{j:Nat}{n:Str}(hj:P.nm j=n)(c:nA P.K C n f):Meth P n (cY C j) (.ref f):=by
 subst hj
 intro A s hp stk v x pl Q E ok r h q
 obtain⟨a,ox,od,rfl,I,hl⟩:=qN inj ok r h
 exact method_fn (tp.kin.keeps ok.base) I c.ga c.gt c.fn c.ty (by unfold shadowIn;simp only[hl];rfl) (q s.toks)
theorem Sim.methStar(inj:∀i j,P.nm i=P.nm j→i=j){mg mb:Str→Option Value}(tp:eL P mg mb){C f:Addr}{j:Nat}{n:Str}(hj:P.nm j=n)(c:nA P.K C n f)(hget:specialIn P.K (.ref f) "__get__" =some (some (.builtin "function.__get__")))(htk:takesIn P.K (.ref f)=some false)(hcls:(clsIn P.K C).isSome=true)(hcop:copiedNames.contains n=false)(hfi:fnIn P.K f=true)
 {o:Expr}{apos pos:Pos}{es:List Expr}{Dc:DC}{Do:DE}{D:lV}(ho:bU P Fl d sc o Do)(hr:SimR P Fl d sc pos es D)(hf:OkK P Fl d (.ref f) Dc)
 (hbase:∀env,attributeBase o n env (eval o env)=eval o env)(hmany:∀env,((backTo pos (starEach es env)).all (λx=> !x.1))=false):
 bU P Fl d sc (.Call (.Attribute o n apos) es [] pos) (bX (cY C j) Dc Do D):=by
 subst hj
 intro A env s Q X loc hp stk rm hs ev ok hD
 rw[T,Gf,hbase env]
 refine wpAny_bind ((ho A env s _ X loc hp stk rm hs ev ok hD).thn λx hp1 s1 e1 ok1 hq=>?_)
 obtain⟨v,⟨hR,q⟩,r⟩:=hq
 refine wpAny_bind (wpAny_standAt ?_)
 have hc:methodCallForm (es.length+([]:List Keyword).length) (backTo pos (starEach es env)) (backToKw pos (keywordEach [] env))=false:=by
  show((backTo pos (starEach es env)).all (λx=> !x.1)&&true&&_)=false
  rw[hmany env];rfl
 delta methodCall calleeOf methodCallPos
 rw[hc,if_neg (by decide)]
 obtain⟨a,ox,od,rfl,I,hl⟩:=qN inj ok1 r hR
 have X':=tp.kin.keeps ok1.base
 refine(qX.mp hcls).elim λcd hcd=>?_
 have hfo:findObj P.K C (some od) (P.nm j)=some (.bind (.builtin "function.__get__") (.ref f)):=by
  unfold findObj
  rw[hcd,d7,c.fn,d7]
  simp only[hget,htk,d7,W.ownOf,hcop,BE]
  cases cd.hasDict<;>simp[hl]
 refine wpAny_bind (wpAny_holding (wpAny_bind (get_bind X' I c.ga hfo c.gt ?_)))
 refine wpAny_call (fn_get (s:={s1 with toks:=s1.toks+1}) X' c.ty ?_)
 show wpAny _ _ (handedOut (.ref s1.heap.objs.size)) _ _ _
 rw[yq rfl]
 refine wpAny_pure (wpAny_pure (wpAny_bind ?_))
 rw[if_pos (show(!false||apos.endLine==pos.line)=true from rfl)]
 refine wpAny_pure ?_
 generalize hH:s1.heap.push (methodObj (.ref f) (.ref a))=H
 have k2:∀b o,s1.heap.get? b=some o→H.get? b=some o:=λb o e=>by rw[←hH];exact an _ e
 have gq:H.get? s1.heap.objs.size=some (methodObj (.ref f) (.ref a)):=by rw[←hH];exact aw _ rfl
 have e2:Ext no1 stk hp1 s1 hp1 {s1 with heap:=H,toks:=s1.toks+1}:=Ext.grow (stk:=stk) k2
 have ok2:HeapOk P stk hp1 {s1 with heap:=H,toks:=s1.toks+1}:=ok1.grow k2
 have fq:Fz stk hp1 s1.heap.objs.size:=ja ok1
 refine kC (R:=MethP P.K s1.heap.objs.size f (.ref a)) (λh k=>keeps_M hfi h k) ?_
 have e12:=e1.trans e2
 refine wpAny_mono (hr (.ref s1.heap.objs.size) A env _ _ X loc hp1 stk rm hs (ev.step ok e12) ok2 q) (λaa s3 hq=>?_) λy y z=>z.back P e12
 obtain⟨hp3,e3,ok3,hkw,vs,q3,r3⟩:=hq
 have gq3:s3.heap.get? s1.heap.objs.size=some (methodObj (.ref f) (.ref a)):=e3.same fq.1 (λz=>z) (.inl fq.2) gq
 refine⟨⟨gq3,tp.kin.keeps ok3.base⟩,?_⟩
 rw[hkw]
 have e13:=e12.trans e3
 refine wpAny_mono (wpAny_call (method_call gq3 (hf A s3 Q X hp3 stk (v::vs) (.ref a::aa.pos) rm (ev.step ok e13).frs ok3 (vCons (fE (e2.trans e3) r) r3) q3))) (λy y z=>z.back P e13) λy y z=>z.back P e13
theorem Sim.clsAttr{mg mb:Str→Option Value}(tp:eL P mg mb){C:Addr}{n:Str}{l:List Nat}{tk:Tok}{x:Str}{np pos:Pos}(hn:NameIs P sc (.Name x np) (.ref C))(hr:readsIn P.K C (.type "type")=true)(he:findCls P.K (.ref C) (.type "type") n=some (.val (.str ⟨l.toArray⟩ tk))):
 bU P Fl d sc (.Attribute (.Name x np) n pos) (aQ (.str l)):=by
 intro A env s Q X loc hp stk rm hs ev ok hq
 rw[T,kF]
 show wpAny _ _ (eval (.Name x np) env>>= _) _ _ s
 refine wpAny_bind (hn A env s loc hp stk _ _ hs ev ok ?_)
 refine wpAny_bind (wpAny_standAt (wpAny_bind (wpAny_holding (cls_value (tp.kin.keeps ok.base) hr he rfl ?_))))
 exact wpAny_bind (jG (wpAny_pure (gY ok hq xk)))
end Mine
namespace Mine
variable{P:dH}{Fl:iq}{d:Nat}{sc:Scope}{ex:Nat→Value}
theorem fA.tc{A:aC}{C:Addr}{rest:List Value}(r:fA (d+1) A):fA d (A.under (.builtin "type.__call__" ⟨.ref C::rest,[]⟩)):=by
 have hw:(CY "type.__call__" ⟨.ref C::rest,[]⟩).weight=1:=rfl
 have hu:(CY "type.__call__" ⟨.ref C::rest,[]⟩).cUnits=1:=rfl
 refine⟨?_,?_,λz=>r.hd (oA _)⟩
 ·have:=r.depth;show A.depth+_+d<_;rw[hw];lia
 ·have:=r.units;show A.units+_+8*d+128<_;rw[hu];lia
theorem nU{A:aC}{C:Addr}{rest:List Value}:(A.under (.builtin "type.__call__" ⟨.ref C::rest,[]⟩)).frames=A.frames:=by
 show pushEnvs [] A.frames=A.frames
 cases A.frames<;>rfl
structure MakeF(K:Frag)(C fI:Addr):Prop where
 mak:makesIn K C=true
 init:findIn K (.ref C) "__init__" =some (some (.ref fI))
 ty:typeIn K (.ref fI)=some (.type "function")
theorem makeCore{A:aC}{mg mb:Str→Option Value}(tp:eL P mg mb){C fI:Addr}(F:MakeF P.K C fI){s:af}{stk:Addr→Prop}{hp:Hp}{xs:List Value}{R:rc→af→Prop}(ok:HeapOk P stk hp s)
 (h:∀h',(∀b o,s.heap.get? b=some o→h'.get? b=some o)→h'.get? s.heap.objs.size=some emptyDict→h'.get? (s.heap.objs.size+1)=some (instObj C s.heap.objs.size)→
  codeAny P.M (A.under (.builtin "type.__call__" ⟨.ref C::xs,[]⟩)) (.call (.ref fI) ⟨.ref (s.heap.objs.size+1)::xs,[]⟩) (zX (s.heap.objs.size+1) R) {s with heap:=h'}):
 codeAny P.M A (.call (.ref C) ⟨xs,[]⟩) R s:=by
 have X:=tp.kin.keeps ok.base
 obtain⟨hh,g,dr,t,os⟩:=s
 refine make_core (makes_of X F.mak) (looks_findIn X F.init) (λself=>bind_fn X self F.ty) (.inl rfl) ?_
 refine h _ (λb o e=>an _ (an _ e)) (an _ (aw _ rfl)) ?_
 have:=aw (hh.push emptyDict) (o:=instObj C hh.objs.size) rfl
 rw[c9]at this
 exact this
theorem vb{own stk:Addr→Prop}{hp:Hp}{s:af}{h':Heap}{C:Addr}(ok:HeapOk P stk hp s)(k:∀b o,s.heap.get? b=some o→h'.get? b=some o)(gd:h'.get? s.heap.objs.size=some emptyDict)(gx:h'.get? (s.heap.objs.size+1)=some (instObj C s.heap.objs.size)):
 hp (s.heap.objs.size+1)=ae∧hp s.heap.objs.size=ae∧Ext own stk hp s (upd (upd hp s.heap.objs.size (.ns [])) (s.heap.objs.size+1) (.inst C s.heap.objs.size)) {s with heap:=h'}∧HeapOk P stk (upd (upd hp s.heap.objs.size (.ns [])) (s.heap.objs.size+1) (.inst C s.heap.objs.size)) {s with heap:=h'}:=by
 have n0:=eV s.heap
 have n1:s.heap.get? (s.heap.objs.size+1)=ae:=by
  cases q:s.heap.get? (s.heap.objs.size+1)with
  |none=>rfl
  |some o=>exact absurd (bJ q) (fN.mpr (gC _))
 have f0:=fz_of_new ok n0
 have f1:=fz_of_new ok n1
 have ne:(s.heap.objs.size+1:Nat)≠s.heap.objs.size:=by lia
 have ky:∀b o,s.heap.get? b=some o→b≠s.heap.objs.size∧b≠s.heap.objs.size+1:=λb o g=>⟨(by rintro rfl;rw[n0]at g;cases g),(by rintro rfl;rw[n1]at g;cases g)⟩
 have hE:∀b,b≠s.heap.objs.size→b≠s.heap.objs.size+1→upd (upd hp s.heap.objs.size (.ns [])) (s.heap.objs.size+1) (.inst C s.heap.objs.size) b=hp b:=λb h1 h2=>by rw[upd_ne h2,upd_ne h1]
 have kyF:bW (Fz stk hp) (Fz stk (upd (upd hp s.heap.objs.size (.ns [])) (s.heap.objs.size+1) (.inst C s.heap.objs.size))) s.heap h':=λa o f g=>⟨⟨by rw[hE a (ky a o g).1 (ky a o g).2];exact f.1,f.2⟩,k a o g⟩
 refine⟨f1.1,f0.1,.exact (λb o x x g=>k b o g) (λb o g=>⟨o,k b o g⟩) (λb o x g d=>⟨o,k b o g,d⟩) (λb e n=>?_) rfl rfl,⟨λb o e=>?_,λb e z=>?_,λb o e=>k b o (ok.base b o e),λb e=>?_,ok.stkn,λa z=>(by obtain⟨o,g⟩:=ok.stkl a z;exact⟨o,k a o g⟩),ok.gens⟩⟩
 ·by_cases q1:b=s.heap.objs.size
  ·subst q1;exact n0
  ·by_cases q2:b=s.heap.objs.size+1
   ·subst q2;exact n1
   ·rw[hE b q1 q2]at n;exact absurd e n
 ·by_cases q2:b=s.heap.objs.size+1
  ·subst q2;rw[upd_same]at e;cases e;exact gx
  ·by_cases q1:b=s.heap.objs.size
   ·subst q1;rw[upd_ne q2,upd_same]at e;cases e
    exact⟨λx=>ae,⟨#[],0,gd,bx _,(by intro e he;simp at he),λx=>rfl⟩,by simp only[VRfe],λn y z=>(nomatch z)⟩
   ·rw[hE b q1 q2]at e
    exact(ok.obj b o e).keep kyF λo g=>k b o g
 ·by_cases q2:b=s.heap.objs.size+1
  ·subst q2;exact f1.2 z
  ·by_cases q1:b=s.heap.objs.size
   ·subst q1;exact f0.2 z
   ·rw[hE b q1 q2]at e;exact ok.apart b e z
 ·have nb:∀c,s.heap.get? c=ae→P.H₀.get? c=ae:=λc h=>by
   cases q:P.H₀.get? c with
   |none=>rfl
   |some o=>have:=ok.base c o q;rw[h]at this;cases this
  by_cases q2:b=s.heap.objs.size+1
  ·subst q2;exact nb _ n1
  ·by_cases q1:b=s.heap.objs.size
   ·subst q1;exact nb _ n0
   ·rw[hE b q1 q2]at e;exact ok.new b e
noncomputable def xF(C:Addr)(Di:DC):DC:=λvs Q X hp=>∀x dd,hp x=ae→hp dd=ae→x≠dd→Di (.ref x::vs) (λv hp'=>v= .none∧Q (.ref x) hp') X (upd (upd hp dd (.ns [])) x (.inst C dd))
theorem OkK.make{mg mb:Str→Option Value}(tp:eL P mg mb){C fI:Addr}(F:MakeF P.K C fI){Di:DC}(h:OkK P Fl d (.ref fI) Di):OkK P Fl (d+1) (.ref C) (xF C Di):=by
 intro A s Q X hp stk vs xs rm fs ok r hD
 refine makeCore tp F ok λh' k gd gx=>?_
 obtain⟨p1,p0,e1,ok1⟩:=vb (own:=no1) ok k gd gx
 have:=h (A.under (.builtin "type.__call__" ⟨.ref C::xs,[]⟩)) {s with heap:=h'} _ X _ stk (.ref (s.heap.objs.size+1)::vs) (.ref (s.heap.objs.size+1)::xs) rm.tc ((fs.step e1).around nU) ok1 (vCons sJ (j5 e1 r)) (hD _ _ p1 p0 (by show(s.heap.objs.size+1:Nat)≠s.heap.objs.size;lia))
 refine mq this λrr s2 z=>?_
 unfold zX
 rcases rr with e|(y|_|_|_)
 ·exact z.back P e1
 all_goals first|exact z.elim|skip
 obtain⟨hp2,e2,ok2,v,⟨rfl,q⟩,rv⟩:=z
 simp only[VRe]at rv
 exact⟨rv,hp2,e1.trans e2,ok2,_,q,sJ⟩
noncomputable def pz(C:Addr)(Di:DC):DC:=λvs Q X hp=>∀x dd,hp x=ae→hp dd=ae→x≠dd→Di (.ref x::vs) (λv hp'=>v= .none∧∃fs,hp' x=some (.inst C dd)∧hp' dd=some (.ns fs)∧Q (.obj C fs) (del (del hp' x) dd)) X (upd (upd hp dd (.ns [])) x (.inst C dd))
theorem qM{stk:Addr→Prop}{hp:Hp}{h:Heap}(a:Addr):bW (Fz stk hp) (Fz stk (del hp a)) h h:=by
 rintro b ob ⟨e,n⟩ g
 refine⟨⟨?_,n⟩,g⟩
 by_cases z:b=a
 ·subst z;simp
 ·rw[del_ne z];exact e
theorem OkK.makeF{mg mb:Str→Option Value}(tp:eL P mg mb){C fI:Addr}(F:MakeF P.K C fI){Di:DC}(h:OkK P Fl d (.ref fI) Di):OkK P Fl (d+1) (.ref C) (pz C Di):=by
 intro A s Q X hp stk vs xs rm fs ok r hD
 refine makeCore tp F ok λh' k gd gx=>?_
 obtain⟨p1,p0,e1,ok1⟩:=vb (own:=no1) ok k gd gx
 have hne:(s.heap.objs.size+1:Nat)≠s.heap.objs.size:=by lia
 have:=h (A.under (.builtin "type.__call__" ⟨.ref C::xs,[]⟩)) {s with heap:=h'} _ X _ stk (.ref (s.heap.objs.size+1)::vs) (.ref (s.heap.objs.size+1)::xs) rm.tc ((fs.step e1).around nU) ok1 (vCons sJ (j5 e1 r)) (hD _ _ p1 p0 hne)
 refine mq this λrr s2 z=>?_
 unfold zX
 rcases rr with e|(y|_|_|_)
 ·exact z.back P e1
 all_goals first|exact z.elim|skip
 obtain⟨hp2,e2,ok2,v,⟨rfl,fs',h1,h2,q⟩,rv⟩:=z
 simp only[VRe]at rv
 refine⟨rv,_,(e1.trans e2).trans ((Ext.drop (own:=no1) (stk:=stk) (s.heap.objs.size+1)).trans (Ext.drop (own:=no1) (stk:=stk) s.heap.objs.size)),(ok2.drop _).drop _,.obj C fs',q,?_⟩
 have g1:=ok2.obj _ _ h1
 obtain⟨m,ns,rf,cov⟩:=ok2.obj _ _ h2
 have ky:=λa o f g=>(qM (stk:=stk) (hp:=del hp2 (s.heap.objs.size+1)) (h:=s2.heap) s.heap.objs.size) a o (qM (stk:=stk) (hp:=hp2) (s.heap.objs.size+1) a o f g).1 g
 simp only[VRe]
 refine⟨_,_,m,rfl,⟨?_,ok2.apart _ (by rw[h1];intro z;cases z)⟩,⟨by simp,ok2.apart _ (by rw[h2];intro z;cases z)⟩,g1,ns,rf.keep ky,cov⟩
 rw[del_ne hne];simp
noncomputable def uh(C:Addr)(Di:DC):DC:=λvs Q X hp=>∀x,hp x=ae→Di (.ref x::vs) (λv hp'=>v= .none∧Q (.ref x) hp') X (upd hp x (.sl C []))
theorem OkK.makeS{mg mb:Str→Option Value}(tp:eL P mg mb){C fI:Addr}(F:MakeF P.K C fI){Di:DC}(h:OkK P Fl d (.ref fI) Di):OkK P Fl (d+1) (.ref C) (uh C Di):=by
 intro A s Q X hp stk vs xs rm fs ok r hD
 refine makeCore tp F ok λh' k gd gx=>?_
 have n0:=eV s.heap
 have n1:s.heap.get? (s.heap.objs.size+1)=ae:=by
  cases q:s.heap.get? (s.heap.objs.size+1)with
  |none=>rfl
  |some o=>exact absurd (bJ q) (fN.mpr (gC _))
 have f0:=fz_of_new ok n0
 have hne:(s.heap.objs.size:Nat)≠s.heap.objs.size+1:=by lia
 have p1:=(fz_of_new ok n1).1
 have e1:Ext no1 stk hp s (upd hp (s.heap.objs.size+1) (.sl C [])) {s with heap:=h'}:=Ext.track (tk:=s.toks) k n1
 have ok1:HeapOk P stk (upd hp (s.heap.objs.size+1) (.sl C [])) {s with heap:=h'}:=ok.track (tk:=s.toks) k n1 ⟨#[],_,_,gx,⟨by rw[upd_ne hne];exact f0.1,f0.2⟩,gd,by simp only[SRe]⟩
 have:=h (A.under (.builtin "type.__call__" ⟨.ref C::xs,[]⟩)) {s with heap:=h'} _ X _ stk (.ref (s.heap.objs.size+1)::vs) (.ref (s.heap.objs.size+1)::xs) rm.tc ((fs.step e1).around nU) ok1 (vCons sJ (j5 e1 r)) (hD _ p1)
 refine mq this λrr s2 z=>?_
 unfold zX
 rcases rr with e|(y|_|_|_)
 ·exact z.back P e1
 all_goals first|exact z.elim|skip
 obtain⟨hp2,e2,ok2,v,⟨rfl,q⟩,rv⟩:=z
 simp only[VRe]at rv
 exact⟨rv,hp2,e1.trans e2,ok2,_,q,sJ⟩
end Mine
namespace Mine
variable{P:dH}{Fl:iq}{d:Nat}{sc:Scope}{ex:Nat→Value}
noncomputable def nJ(i0 i1:Nat):List V→Hp→Option (List (Nat×V)):=λvs z=>match vs with| [v]=>some [(i0,v),(i1,.none)]|_=>ae
theorem BindOk.def1{mg mb:Str→Option Value}(tp:eL P mg mb){fd:FuncData}{i0 i1:Nat}(hb:∀s x,P.K.In s.heap→BindsTo s fd ⟨[x],[]⟩ [(P.nm i0,x),(P.nm i1,.none)]):BindOk P fd (nJ i0 i1):=by
 intro A s hp stk vs xs ps Q E ok r h q
 rcases vs with _|⟨v,_|⟨u,us⟩⟩
 ·cases h
 ·cases h
  obtain⟨y,ys,rfl,p,rfl⟩:=r
  refine hb s y (tp.kin.keeps ok.base) _ _ _ _ (q _ s.heap (λz z e=>e) ?_)
  simp only[BRe]
  exact⟨_,_,rfl,p,_,_,rfl,vNone,rfl⟩
 ·cases h
noncomputable def bdStar1(i0 ir:Nat):List V→Hp→Option (List (Nat×V)):=λvs z=>match vs with|v::us=>if us.length≤lim then some [(i0,v),(ir,.tup us)]else ae|_=>ae
noncomputable def lI(i0 i1 ir:Nat):List V→Hp→Option (List (Nat×V)):=λvs z=>match vs with|v::u::us=>if us.length≤lim then some [(i0,v),(i1,u),(ir,.tup us)]else ae|_=>ae
theorem xS{A:aC}{s:af}{hp:Hp}{stk:Addr→Prop}{us:List V}{ys:List Value}{Q:Value→af→Prop}{E:Value→af→Prop}(ok:HeapOk P stk hp s)(r:P.VRs stk hp s.heap us ys)(hl:us.length≤lim)
 (q:∀t h',(∀b o,s.heap.get? b=some o→h'.get? b=some o)→P.VR stk hp h' (.tup us) t→Q t {s with heap:=h'}):wpAny P.M A (newTuple ys) Q E s:=by
 have k:∀b o,s.heap.get? b=some o→(s.heap.push {cls:=.type "tuple",dict:=none,data:=.seq ys.toArray}).get? b=some o:=λb o e=>an _ e
 refine d6 (q _ _ k ?_) ?_
 ·simp only[VRe]
  exact⟨_,ys.toArray,rfl,ja ok,⟨0,aw _ rfl⟩,by simpa using iQ k r⟩
 ·have:=r.length;have:=fB;show ys.toArray.size≤sizeLine;simp;lia
theorem BindOk.star1{fd:FuncData}{i0 ir:Nat}(hb:∀x rest,bindArgs fd ⟨x::rest,[]⟩=newTuple rest>>= λt=>pure [(P.nm i0,x),(P.nm ir,t)]):BindOk P fd (bdStar1 i0 ir):=by
 intro A s hp stk vs xs ps Q E ok r h q
 rcases vs with _|⟨v,us⟩
 ·cases h
 ·by_cases hl:us.length≤lim
  ·cases (if_pos hl).symm.trans h
   obtain⟨y,ys,rfl,p,r⟩:=r
   rw[hb]
   refine wpAny_bind (xS ok r hl λt h' k rt=>wpAny_pure (q _ h' k ?_))
   simp only[BRe]
   exact⟨_,_,rfl,rT k p,_,_,rfl,rt,rfl⟩
  ·cases (if_neg hl).symm.trans h
theorem BindOk.star2{fd:FuncData}{i0 i1 ir:Nat}(hb:∀x y rest,bindArgs fd ⟨x::y::rest,[]⟩=newTuple rest>>= λt=>pure [(P.nm i0,x),(P.nm i1,y),(P.nm ir,t)]):BindOk P fd (lI i0 i1 ir):=by
 intro A s hp stk vs xs ps Q E ok r h q
 rcases vs with _|⟨v,_|⟨u,us⟩⟩
 ·cases h
 ·cases h
 ·by_cases hl:us.length≤lim
  ·cases (if_pos hl).symm.trans h
   obtain⟨y,ys,rfl,p,z,zs,rfl,p2,r⟩:=r
   rw[hb]
   refine wpAny_bind (xS ok r hl λt h' k rt=>wpAny_pure (q _ h' k ?_))
   simp only[BRe]
   exact⟨_,_,rfl,rT k p,_,_,rfl,rT k p2,_,_,rfl,rt,rfl⟩
  ·cases (if_neg hl).symm.trans h
end Mine
namespace Mine
variable{P:dH}{Fl:iq}{d:Nat}{sc:Scope}{ex:Nat→Value}
noncomputable def zP(i:Nat)(e:DE)(a b:DS):DS:=λQ X loc hp=>e (λv hp1=>∃c,ix v .none=some c∧if c then a Q X (upd loc i v) hp1 else b Q X (upd loc i v) hp1) (λk hp'=>X k loc hp') loc hp
theorem SimS.ifNamed(inj:∀i j,P.nm i=P.nm j→i=j){i:Nat}{x:Str}{e:Expr}{k:Nat}{p np cp kp pos:Pos}{xs ys:List Stmt}{D:DE}{a b:DS}(hx:P.nm i=x)(hk:(match sc.names.lookup x with|some .local=>true|some .cell=>true|_=>false)=true)(he:bU P Fl d sc e D)(ha:SimSs P Fl d sc xs a)(hb:SimSs P Fl d sc ys b):
 SimS P Fl d sc (.If (.Compare (.NamedExpr (.Name x p) e np) [.Is] [.Constant .none k kp] cp) xs ys pos) (zP i D a b):=by
 subst hx
 intro A env s Q X loc hp stk rm hs ev ok hD
 refine wpAny_If (wpAny_isTrue_Compare1 (wpAny_NamedExpr (E2 he rm hs ev ok hD λv y hp1 s1 e1 ev1 ok1 hq r=>?_)) rfl)
 obtain⟨c,hc,q⟩:=hq
 refine wpAny_assign_Name (storeVar inj (by rw[hs];exact hk) ev1 ok1 r λs2 e2 ev2 ok2=>?_)
 have e12:=e1.of1.trans (e2.wider ownI_E)
 have r2:P.VR stk hp1 s2.heap v y:=lw ev1 (e2.wider ownI_E) r
 refine Br ?_
 obtain⟨pl,eq⟩:=isOne_plain r2 (vNone (F:=Fz stk hp1) (h:=s2.heap)) hc
 refine Ff pl ?_
 rw[eq]
 refine wpAny_truthy_bool ?_
 cases c with
 |true=>exact T.nxt e12 (ha A env s2 Q X _ hp1 stk rm hs ev2 ok2 q)
 |false=>exact T.nxt e12 (hb A env s2 Q X _ hp1 stk rm hs ev2 ok2 q)
noncomputable def xv(i j:Nat)(e:DE):DS:=λQ X loc hp=>e (λv hp1=>∃u w,v= .tup [u,w]∧Q .next (upd (upd loc j w) i u) hp1) (λk hp'=>X k loc hp') loc hp
theorem SimS.swap(inj:∀i j,P.nm i=P.nm j→i=j){i j:Nat}{ts:List Expr}{k:Nat}{tp pos:Pos}{e:Expr}{D:DE}(hd:0<d)(hi:sc.names.lookup (P.nm i)=some .local)(hj:sc.names.lookup (P.nm j)=some .local)(h:bU P Fl d sc e D)
 (hs':∀env:Env,swapsWithSole [.Tuple ts k tp] e pos.line env=pure false)(hw:∀env:Env,env.scope=sc→swappedStores [.Tuple ts k tp] e env=pure (some [P.nm i,P.nm j])):SimS P Fl d sc (.Assign [.Tuple ts k tp] e pos) (xv i j D):=by
 intro A env s Q X loc hp stk rm hs ev ok hD
 refine Assign_Tuple_swapped (E2 h rm hs ev ok hD λv x hp1 s1 e1 ev1 ok1 hq r=>?_) (hs' env) (hw env hs)
 obtain⟨u,w,hv,q⟩:=hq
 subst hv
 obtain⟨a,xs,rfl,f,⟨n,g⟩,rx⟩:=r
 have hx:=rx.length
 have hz:xs.size=2:=by rw[←jj];exact hx
 show wpAny _ _ (unpackItems (.ref a) 2 ae) _ _ _
 rw[←hz]
 refine wpAny_unpackItems_tuple (rm.hd hd) (items:=xs) ⟨_,g,rfl,n,rfl⟩ λh' kp=>?_
 have kp':∀b o,s1.heap.get? b=some o→h'.get? b=some o:=λb o e=>kp b o (cR (bJ e)) e
 have e2:Ext no1 stk hp1 s1 hp1 {s1 with heap:=h'}:=Ext.grow (stk:=stk) (tk:=s1.toks) kp'
 have ok2:HeapOk P stk hp1 {s1 with heap:=h'}:=ok1.grow (tk:=s1.toks) kp'
 have ev2:=ev1.step ok1 e2
 have rx2:=iQ kp' rx
 obtain⟨y,ys,hxs,ry,z,zs,rfl,rz,rfl⟩:=rx2
 rw[hxs]
 show wpAny _ _ (assignInOrder [λv=>bindName env (P.nm j) v,λv=>bindName env (P.nm i) v] [z,y]) _ _ _
 refine lD (Fg (storeVar inj (by rw[hs,hj]) ev2 ok2 rz λs3 e3 ev3 ok3=>?_))
 refine lD (Fg (storeVar inj (by rw[hs,hi]) ev3 ok3 (lw ev2 (e3.wider ownI_E) ry) λs4 e4 ev4 ok4=>?_))
 exact wpAny_assignInOrder_none ⟨hp1,((e1.trans e2).of1.trans (e3.wider ownI_E)).trans (e4.wider ownI_E),ok4,.next,_,ev4,q,trivial⟩
end Mine
namespace Mine
variable{A:aC}{P:dH}{Fl:iq}{d:Nat}{sc:Scope}
noncomputable def uj(fr:List Nat)(src:DE)(t:DA)(f:DT)(inner:CD):DE:=λQ X loc hp=>src (λv hp1=>∃vs,eh hp1 v=some vs∧lQ v hp1 t f inner (λacc hp'=>∀l,hp' l=ae→Q (.ref l) (upd hp' l (.lst acc))) vs [] (keepL fr loc) hp1) X loc hp
theorem mS.tr{stk:Addr→Prop}{hp hp':Hp}{s s':af}{D C:Addr}{acc:List V}(c:mS P stk hp hp' s s' D C acc){h':Heap}(hs:bP C s'.heap h'):hp' D=ae∧Ext no1 stk hp s (upd hp' D (.lst acc)) {s' with heap:=h'}∧HeapOk P stk (upd hp' D (.lst acc)) {s' with heap:=h'}:=by
 obtain⟨e,_,_⟩:=c.fin hs
 obtain⟨stkN,sub,ok,sD,sC,nD,nC,fC,_,ys,⟨n,g⟩,r⟩:=c.all
 have hD:=stk_none ok sD
 have gD:h'.get? D=some _:=(hs.2 D c.dif).trans g
 have ky:bW (Fz stkN hp') (Fz stk (upd hp' D (.lst acc))) s'.heap h':=λa o f g=>⟨⟨by rw[upd_ne (show a≠D from λz=>f.2 (z▸sD))];exact f.1,λz=>f.2 (sub a z)⟩,(hs.2 a (λz=>f.2 (z▸sC))).trans g⟩
 refine⟨hD,⟨e.keep,e.there,e.dic,λb h n=>?_,e.drawn,e.os⟩,⟨λa o h=>?_,λa h z=>?_,λb o h=>(hs.2 b ?_).trans (ok.base b o h),λa h=>?_,λa z=>ok.stkn a (sub a z),λa z=>?_,ok.gens⟩⟩
 ·by_cases q:b=D
  ·subst q;exact c.fD
  ·rw[upd_ne q]at n;exact e.fresh b h n
 ·by_cases q:a=D
  ·subst q;rw[upd_same]at h;cases h;exact⟨ys,⟨n,gD⟩,r.keep ky⟩
  ·rw[upd_ne q]at h
   exact(ok.obj a o h).keep ky λo g=>(hs.2 a (by rintro rfl;rw[stk_none ok sC]at h;cases h)).trans g
 ·by_cases q:a=D
  ·subst q;exact nD z
  ·rw[upd_ne q]at h;exact ok.apart a h (sub a z)
 ·rintro rfl;rw[ok.stkn b sC]at h;cases h
 ·by_cases q:a=D
  ·subst q;exact ok.stkn a sD
  ·rw[upd_ne q]at h;exact ok.new a h
 ·obtain⟨o,g⟩:=ok.stkl a (sub a z);exact⟨o,(hs.2 a (by rintro rfl;exact nC z)).trans g⟩
theorem Sim.compN(hz:(P.H₀.get? sysModules).isSome=true)(hd:0<d){elt:Expr}{rest:List cB}{scope:Scope}{pos:Pos}{t iter:Expr}{ifs:List Expr}{idt ids fr:List Nat}{De:DE}{Dt:DA}{Df:DT}{inner:CD}(hn1:rest[0]?=ae∨∃t' i' f',rest[0]?=some ⟨t',i',f',0⟩)
 (F:bi P scope sc fr (idt++ids))
 (he:bU P Fl d sc iter De)(ht:SimG P Fl d (jR scope sc) t idt Dt)(htg:Tgt idt Dt)(hf:eM P Fl d (jR scope sc) ifs Df)(hi:SimI P Fl d (jR scope sc) elt (⟨t,iter,ifs,0⟩::rest) scope pos 1 ids inner)(hdis:∀i∈ids,i∉idt)(hfs:∀env x,foldedSetIterable iter env x=pure x):
 bU P Fl d sc (.ListComp elt (⟨t,iter,ifs,0⟩::rest) scope pos) (uj fr De Dt Df inner):=by
 intro A env s Q X loc hp stk rm hs ev ok hD
 rw[T,Ge]
 refine lC (use:=none) rfl (hfs env) (jX λn k h1 h2=>?_) F.kind (nS F.nodup) ?_
 ·subst h2
  obtain⟨c,_,e,_⟩:=ev.cells n (by have:=F.out n h1;rw[←hs]at this;exact this)
  exact⟨c,e⟩
 ·refine nX (G:=λy=>True) (K:=λacc hp'=>∀l,hp' l=ae→Q (.ref l) (upd hp' l (.lst acc))) hd trivial rfl hn1 F he ht htg hf hi hdis rm hs ev ok (λv hp1 h=>by obtain⟨vs,hv,lp⟩:=h;exact⟨vs,hp1,v,its_of hz hv,lp⟩) hD (λy y z=>z) λD C hp' acc f s' ce q=>?_
  obtain⟨_,_,_,_,_,_,_,_,⟨m,hn⟩,_⟩:=ce.all
  refine⟨m,hn,λh' hs'=>?_⟩
  obtain⟨hD,e,ok'⟩:=ce.tr hs'
  exact⟨_,e,ok',_,q D hD,sJ⟩
end Mine
namespace Mine
variable{P:dH}{Fl:iq}{d:Nat}{sc:Scope}{ex:Nat→Value}
theorem gO{F:Addr→Prop}{h:Heap}{vs:List V}{xs:Array Value}(r:VRs P.nm F h vs xs.toList):xs.size=vs.length:=by rw[←r.length];simp
theorem k7{stk:Addr→Prop}{hp:Hp}{s:af}{Q:V→Hp→Prop}{h':Heap}{tk:Nat}{v:V}{y:Value}(ok:HeapOk P stk hp s)(k:∀b o,s.heap.get? b=some o→h'.get? b=some o)(q:Q v hp)(r:P.VR stk hp h' v y):
 PostT P no1 stk hp s (PV P stk Q) y {s with heap:=h',toks:=tk}:=⟨hp,Ext.grow (stk:=stk) k,ok.grow k,v,q,r⟩
noncomputable def Bb(hp:Hp):V→Option Nat
 | .tup vs=>some vs.length
 | .str l=>some l.length
 | .ref a=>(match hp a with|some (.dict es _)=>some es.length|some (.lst vs)=>some vs.length|_=>ae)
 | .lst vs=>some vs.length
 |_=>ae
noncomputable def d9:DC:=λvs Q X hp=>∃v n,vs=[v]∧Bb hp v=some n∧n≤lim∧Q (.int n) hp
set_option tactic.hygienic true in
theorem OkC.len(hz:(P.H₀.get? sysModules).isSome=true):OkC P Fl d (.builtin "len") d9:=by
 rintro A s Q X hp stk vs xs rm fs ok r ⟨v,n,hv,hn,hl,q⟩
 subst hv
 obtain⟨x,ys,rfl,r,rfl⟩:=r
 unfold lim at hl
 have lists:∀us,cg hp v=some us→us.length=n→T P no1 stk A (call (.builtin "len") [x]) hp s (PV P stk Q) (lX Fl X):=by
  intro us hu hln
  obtain⟨a,zs,rfl,p,rz⟩:=bz ok r hu
  have hz:=gO rz
  refine call_len_list p.isList (by lia) ?_
  rw[hz,hln];exact gY ok q vInt
 cases v<;>first|(cases hn;done)|skip
 case str l=>
  cases hn
  obtain⟨t,rfl⟩:=r
  refine PySem.P.len_str ?_ (gY ok q vInt)
  show¬((l.toArray.size:Int)≥_)
  simp;lia
 case tup us=>
  cases hn
  obtain⟨a,zs,rfl,_,⟨n,g⟩,rz⟩:=r
  have hz:=gO rz
  refine len_tuple ⟨_,g,rfl,n,rfl⟩ (by lia) ?_
  rw[hz];exact gY ok q vInt
 case lst us=>cases hn;exact lists us rfl rfl
 case ref a=>
  change (match hp a with|some (.dict es _)=>some es.length|some (.lst vs)=>some vs.length|_=>ae)=_ at hn
  cases ha:hp a with
  |none=>rw[ha]at hn;cases hn
  |some o=>
   rw[ha]at hn
   cases o<;>first|(cases hn;done)|skip
   ·cases hn;exact lists _ (listOf_ref ha) rfl
   ·rename_i es ep
    simp only[eJ]at hn
    cases r
    obtain⟨kvs,hd,er⟩:=ok.obj _ _ ha
    have hzz:=er.length
    refine call_len_dict (mP ok ha hz) hd.dictOf (by lia) ?_
    rw[hzz,hn];exact gY ok q vInt
 all_goals (first|(cases hn;done)|skip)
noncomputable def qB:DC:=λvs Q X hp=>∃a b,vs=[.int a,.int b]∧Q (.int (if b>a then b else a)) hp
theorem OkC.max2(hd:0<d):OkC P Fl d (.builtin "max") qB:=by
 rintro A s Q X hp stk vs xs rm fs ok r ⟨a,b,hv,q⟩
 subst hv
 obtain⟨x,ys,rfl,⟨t,rfl⟩,y,zs,rfl,⟨u,rfl⟩,rfl⟩:=r
 refine max_two_ints (rm.hd hd) λh' tk k=>k7 ok k q ?_
 split<;>exact vInt
noncomputable def lh:List V→Option (List Int)
 | []=>some []
 |v::vs=>(k9 v).bind λi=>(lh vs).map (i::·)
theorem lK{F:Addr→Prop}{h:Heap}:∀{vs:List V}{xs:List Value}{ns:List Int},VRs P.nm F h vs xs→lh vs=some ns→qg xs ns:=by
 intro xs_
 induction xs_ with
 |nil=>
  intro xs ns r e
  simp only[VRse]at r;cases e;subst r;exact .nil
 |cons v vs ih=>
  intro xs ns r e
  obtain⟨i,e1,e⟩:=kj.mp e
  cases asInt_inv e1
  obtain⟨y,ys,rfl,⟨t,rfl⟩,q⟩:=r
  obtain⟨ms,hm,rfl⟩:=dA.mp e
  exact .cons _ _ (ih q hm)
theorem wu{F:Addr→Prop}{h:Heap}:∀{xs:List Value}{ns:List Int},qg xs ns→VRs P.nm F h (ns.map .int) xs:=by
 intro xs ns h
 induction h with
 |nil=>simp only[dR,VRse]
 |cons n t q ih=>simp only[ar,VRse];exact⟨_,_,rfl,vInt,ih⟩
noncomputable def BS:DC:=λvs Q X hp=>∃v us ns,vs=[v]∧cg hp v=some us∧lh us=some ns∧Q (.int ns.sum) hp
theorem OkC.sum(hd:0<d):OkC P Fl d (.builtin "sum") BS:=by
 rintro A s Q X hp stk vs xs rm fs ok r ⟨v,us,ns,hv,hu,hns,q⟩
 subst hv
 obtain⟨x,ys,rfl,r,rfl⟩:=r
 obtain⟨a,zs,rfl,p,rz⟩:=bz ok r hu
 have hI:=lK rz hns
 obtain⟨xs,hxs⟩:=hI.allInts.items
 have e0:zs=intItems xs:=by simpa using hxs
 subst e0
 refine sum_intListG (rm.hd hd) p.isList λh' tk t' k=>k7 ok k (v:=.int ns.sum) q ?_
 have:preSum (numAt xs) xs.size=ns.sum:=by
  have h1:=Ga (xs:=xs)
  have h2:=hI.numsOf
  rw[h1]at h2
  rw[←h2]
  rw[preSum_eq,List.take_of_length_le (by simp)]
 rw[this];exact vInt
end Mine
namespace Mine
variable{P:dH}{Fl:iq}{d:Nat}{sc:Scope}{ex:Nat→Value}
noncomputable def cJ:DC:=λvs Q X hp=>∃b,vs=[.int b]∧Q (.rng 0 b) hp
noncomputable def iI:DC:=λvs Q X hp=>∃a b,vs=[.int a,.int b]∧Q (.rng a b) hp
theorem OkC.range1:OkC P Fl d (.type "range") cJ:=by
 rintro A s Q X hp stk vs xs rm fs ok r ⟨b,hv,q⟩
 subst hv
 obtain⟨x,ys,rfl,⟨t,rfl⟩,rfl⟩:=r
 refine call_range_1 (k7 ok (λb o e=>an _ e) q ?_)
 simp only[VRe]
 exact⟨_,_,_,_,rfl,ja ok,Bz ..⟩
theorem OkC.range2:OkC P Fl d (.type "range") iI:=by
 rintro A s Q X hp stk vs xs rm fs ok r ⟨a,b,hv,q⟩
 subst hv
 obtain⟨x,ys,rfl,⟨t,rfl⟩,y,zs,rfl,⟨u,rfl⟩,rfl⟩:=r
 refine call_range_2 (k7 ok (λb o e=>an _ e) q ?_)
 simp only[VRe]
 exact⟨_,_,_,_,rfl,ja ok,Bz ..⟩
noncomputable def sortZ(ns:List Int):List Int:=ns.mergeSort (λa b=>decide (a≤b))
theorem rU{ns ms:List Int}(hp:ms.Perm ns)(hs:ms.Pairwise (·≤·)):ms=sortZ ns:=by
 refine GJ (le:=λa b=>a≤b) (λa b z z h1 h2=>qk h1 h2) hs ?_ (hp.trans (jz ns _).symm)
 have:=tO (le:=λ(a b:Int)=>decide (a≤b)) (λa b c h1 h2=>by simp only[decide_eq_true_eq]at*;lia) (λa b=>by simp only[A1,decide_eq_true_eq];lia) ns
 exact this.imp λh=>by simpa using h
noncomputable def lr:DC:=λvs Q X hp=>∃v us ns,vs=[v]∧cg hp v=some us∧lh us=some ns∧us.length<64∧Q (.lst ((sortZ ns).map .int)) hp
theorem OkC.sortInts:OkC P Fl d (.builtin "sorted") lr:=by
 rintro A s Q X hp stk vs xs rm fs ok r ⟨v,us,ns,hv,hu,hns,hl,q⟩
 subst hv
 obtain⟨x,ys,rfl,r,rfl⟩:=r
 obtain⟨a,zs,rfl,p,rz⟩:=bz ok r hu
 have hI:=lK rz hns
 have p':s.heap.IsList a zs.toList.toArray:=by simpa using p.isList
 refine sorted_ints p' hI (by rw[rz.length];exact hl) λout ns' a1 a2 a3=>?_
 obtain⟨e,he⟩:=GE s.heap zs.toList out
 have k:∀b o,s.heap.get? b=some o→(sortedAll s.heap zs.toList out).get? b=some o:=λb o g=>F9 g
 have en:ns'=sortZ ns:=rU a2 a3
 subst en
 refine k7 (tk:=s.toks) ok k q ?_
 simp only[VRe]
 refine⟨_,out,rfl,fz_of_new ok ?_,⟨e,he⟩,wu a1⟩
 cases g:s.heap.get? (s.heap.objs.size+1)with
 |none=>rfl
 |some o=>exact absurd (bJ g) (fN.mpr (gC _))
noncomputable def sQ:DC:=λvs Q X hp=>∃v us,vs=[v]∧cg hp v=some us∧us.length≤lim∧Q (.tup us) hp
theorem OkC.tupL:OkC P Fl d (.type "tuple") sQ:=by
 rintro A s Q X hp stk vs xs rm fs ok r ⟨v,us,hv,hu,hl,q⟩
 subst hv
 obtain⟨x,ys,rfl,r,rfl⟩:=r
 obtain⟨a,zs,rfl,p,rz⟩:=bz ok r hu
 refine call_tuple_list p.isList (λh' k=>?_) (by have:=gO rz;have:=fB;lia)
 have k2:∀b o,s.heap.get? b=some o→(h'.push {cls:=.type "tuple",data:=.seq zs}).get? b=some o:=λb o g=>an _ (k b o g)
 refine k7 (tk:=s.toks) ok k2 q ?_
 simp only[VRe]
 refine⟨_,zs,rfl,fz_of_new ok ?_,⟨0,aw _ rfl⟩,iQ k2 rz⟩
 cases g:s.heap.get? h'.objs.size with
 |none=>rfl
 |some o=>exact absurd (bJ (k _ _ g)) (dh _)
noncomputable def rD:DC:=λvs Q X hp=>∃lo hi,vs=[.rng lo hi]∧bQ lo hi 1=true∧hi - lo≤lim∧Q (.lst (dp lo hi)) hp
theorem OkC.listR(hd:0<d):OkC P Fl d (.type "list") rD:=by
 rintro A s Q X hp stk vs xs rm fs ok r ⟨lo,hi,hv,hsm,h5,q⟩
 subst hv
 obtain⟨x,ys,rfl,⟨a,t,u,v,rfl,_,hr⟩,rfl⟩:=r
 unfold lim at h5
 refine call_list_range (rm.hd hd) hr hsm (rangeSize_one lo hi) (by lia) λh' tk acc c k g hit=>?_
 refine k7 ok k q ?_
 simp only[VRe]
 refine⟨_,acc,rfl,ja ok,⟨c,g⟩,?_⟩
 obtain⟨hz,hit⟩:=hit
 have key:∀(l:List Value)(m:Nat),(∀i v,l[i]?=some v→∃t,v=Value.int (lo+((m+i:Nat):Int)) t)→VRs P.nm (Fz stk hp) h' ((az l.length).map λk=>V.int (lo+((m+k:Nat):Int))) l:=by
  intro l
  induction l with
  |nil=>intro m _;exact vNil
  |cons v l ih=>
   intro m h
   obtain⟨t,rfl⟩:=h 0 _ rfl
   rw[aD,List.range_succ_eq_map,ar,bF]
   refine vCons vInt ?_
   have:=ih (m+1) λi v hv=>by
    obtain⟨t,e⟩:=h (i+1) v (by simpa using hv)
    have e2:m+(i+1)=m+1+i:=by lia
    exact⟨t,by rw[e,e2]⟩
   have e2:((λk:Nat=>V.int (lo+((m+k:Nat):Int)))∘BZ)=λk:Nat=>V.int (lo+((m+1+k:Nat):Int)):=by
    funext k
    have e3:m+BZ k=m+1+k:=by lia
    show V.int (lo+((m+BZ k:Nat):Int))=_
    rw[e3]
   rw[e2];exact this
 have h0:=key acc.toList 0 λi v hv=>by
  obtain⟨t,e⟩:=hit i v (by simpa using hv)
  exact⟨t,by rw[e,Int.mul_one,bH]⟩
 have hl:acc.toList.length=(hi - lo).toNat:=by rw[jj];exact hz
 rw[hl]at h0
 unfold dp
 simpa using h0
noncomputable def Bg:DC:=λvs Q X hp=>vs=[]∧∀l,hp l=ae→Q (.ref l) (upd hp l (.set []))
theorem OkC.set0:OkC P Fl d (.type "set") Bg:=by
 rintro A s Q X hp stk vs xs rm fs ok r ⟨hv,q⟩
 subst hv
 cases r
 refine call_set_0 λled=>newTracked (tk:=s.toks) (o:=.set []) ok rfl ?_ q
 exact⟨_,#[],0,_,aw _ rfl,⟨rfl,rfl,rfl⟩,rfl,λe he=>by simp at he,λk=>by simp,by decide,by rfl,rfl⟩
end Mine
namespace Mine
open PySem.MeetsSeq
variable{P:dH}{Fl:iq}{d:Nat}{sc:Scope}{ex:Nat→Value}
noncomputable def gJ(hp:Hp)(v:V):Prop:=∃vs,cg hp v=some vs
noncomputable def qz(hp:Hp)(v:V):Prop:=∃a es ep,v= .ref a∧hp a=some (.dict es ep)
noncomputable def xC(hp:Hp)(v:V):Prop:=∃a xs,v= .ref a∧hp a=some (.set xs)
noncomputable def isStr(hp:Hp)(v:V):Prop:=∃l,v= .str l
theorem Meth.list{name:Str}{id:String}(slot:C8 "list" name id)(hty:typeOf (.builtin id)=pure (.type "method_descriptor")):Meth P name gJ (.builtin id):=by
 rintro A s hp stk v x pl Q E ok r ⟨vs,h⟩ q
 obtain⟨a,zs,rfl,p,rz⟩:=bz ok r h
 obtain⟨n,g⟩:=p
 exact qi (T:= "list") ⟨_,g,rfl⟩ PySem.F.plainAttrs_list slot hty (λb e=>by cases e;exact⟨_,g,rfl⟩) (q s.toks)
theorem Meth.dict{name:Str}{id:String}(slot:C8 "dict" name id)(hty:typeOf (.builtin id)=pure (.type "method_descriptor")):Meth P name qz (.builtin id):=by
 rintro A s hp stk v x pl Q E ok r ⟨a,es,ep,hv,ha⟩ q
 subst hv
 cases r
 refine(ok.obj _ _ ha).elim λkvs r1_=>r1_.elim λhd er=>?_
 replace hd:=hd.dictOf
 exact qi hd.typeIs PySem.F.plainAttrs_dict slot hty hd.mapOf.noDict (q s.toks)
theorem Meth.setAdd:Meth P "add" xC (.builtin "set.add"):=by
 rintro A s hp stk v x pl Q E ok r ⟨a,xs,hv,ha⟩ q
 subst hv
 cases r
 exact getMethod_set_add (ok.obj _ _ ha) (q s.toks)
theorem Meth.str{name:Str}{id:String}(slot:C8 "str" name id)(hty:typeOf (.builtin id)=pure (.type "method_descriptor")):Meth P name isStr (.builtin id):=by
 rintro A s hp stk v x pl Q E ok r ⟨l,hv⟩ q
 subst hv
 obtain⟨t,rfl⟩:=r
 exact qi (uo _ _ _) PySem.F.plainAttrs_str slot hty (λa e=>by cases e) (q s.toks)
theorem listUpd{stk:Addr→Prop}{hp:Hp}{s:af}{a:Addr}{vs ws:List V}{xs:Array Value}{n:Nat}{f:Array Value→Array Value}{Q:V→Hp→Prop}{v:V}{y:Value}(ok:HeapOk P stk hp s)(ha:hp a=some (.lst vs))(g:IsL s.heap a xs n)
 (r:∀h',bW (Fz stk hp) (Fz stk (upd hp a (.lst ws))) s.heap h'→VRs P.nm (Fz stk (upd hp a (.lst ws))) h' ws (f xs).toList)(q:Q v (upd hp a (.lst ws)))(rv:P.VR stk hp s.heap v y):
 PostT P no1 stk hp s (PV P stk Q) y {s with heap:=s.heap.update a (dQ f)}:=by
 have g':=Fm g f
 have sb:bP a s.heap (s.heap.update a (dQ f)):=bS ..
 refine(listChanged (own:=no1) (tk:=s.toks) (ws:=ws) ok ha sb ⟨_,g'⟩ (r _)).elim λe ok'=>?_
 exact⟨_,e,ok',v,q,fE e rv⟩
noncomputable def ff:DC:=λvs Q X hp=>∃a us v,vs=[.ref a,v]∧hp a=some (.lst us)∧us.length≤lim∧Q .none (upd hp a (.lst (us++[v])))
theorem OkC.append:OkC P Fl d (.builtin "list.append") ff:=by
 rintro A s Q X hp stk vs xs rm fs ok r ⟨a,us,v,hv,ha,hl,q⟩
 subst hv
 obtain⟨x,ys,rfl,rx,y,zs,rfl,ry,rfl⟩:=r
 cases rx
 refine(ok.obj _ _ ha).elim λxs r1_=>r1_.elim λe2_ rz=>e2_.elim λn g=>?_
 refine fX PySem.F.slot_list_append ⟨_,g,rfl⟩ PySem.F.entry_list_append (PySem.F.args_list_append_2 _ _) (list_append a xs n y (by have:=gO rz;have:=fB;lia)) ⟨g,?_⟩
 refine listUpd (f:=λz=>z.push y) ok ha g (λh' ky=>?_) q vNone
 rw[xe];exact(rz.keep ky).append (vCons (ry.keep ky) vNil)
noncomputable def yf:DC:=λvs Q X hp=>∃a us,vs=[.ref a]∧hp a=some (.lst us)∧us.length≤lim∧Q .none (upd hp a (.lst []))
theorem OkC.clear:OkC P Fl d (.builtin "list.clear") yf:=by
 rintro A s Q X hp stk vs xs rm fs ok r ⟨a,us,hv,ha,hl,q⟩
 subst hv
 obtain⟨x,ys,rfl,rx,rfl⟩:=r
 cases rx
 refine(ok.obj _ _ ha).elim λxs r1_=>r1_.elim λe2_ rz=>e2_.elim λn g=>?_
 refine fX PySem.F.slot_list_clear ⟨_,g,rfl⟩ PySem.F.entry_list_clear (PySem.F.args_list_clear_1 _) (GZ a xs n (by have:=gO rz;have:=fB;lia)) ⟨g,?_⟩
 exact listUpd (f:=λz=> #[]) ok ha g (λh' ky=>vNil) q vNone
theorem VRs.dropLast{F:Addr→Prop}{h:Heap}:∀{vs:List V}{xs:List Value},VRs P.nm F h vs xs→VRs P.nm F h vs.dropLast xs.dropLast
 | [],xs,r=>by cases r;simp[VRse]
 | [v],xs,r=>by
   obtain⟨y,ys,rfl,p,rfl⟩:=r
   simp[VRse]
 |v::u::vs,xs,r=>by
  obtain⟨y,ys,rfl,p,z,zs,rfl,p2,q⟩:=r
  simp only[List.dropLast_cons_cons]
  exact vCons p (VRs.dropLast (vCons p2 q))
noncomputable def BU:DC:=λvs Q X hp=>∃a us v,vs=[.ref a]∧hp a=some (.lst us)∧us.length≤lim∧us.getLast?=some v∧Q v (upd hp a (.lst us.dropLast))
theorem OkC.pop:OkC P Fl d (.builtin "list.pop") BU:=by
 rintro A s Q X hp stk vs xs rm fs ok r ⟨a,us,v,hv,ha,hl,hlast,q⟩
 subst hv
 obtain⟨x,ys,rfl,rx,rfl⟩:=r
 cases rx
 refine(ok.obj _ _ ha).elim λxs r1_=>r1_.elim λe2_ rz=>e2_.elim λn g=>?_
 have hz:=gO rz
 rw[List.getLast?_eq_getElem?]at hlast
 obtain⟨y,hy,ry⟩:=rz.get hlast
 have hy':xs[xs.size - 1]?=some y:=by rw[hz,←cL];exact hy
 refine fX PySem.F.slot_list_pop ⟨_,g,rfl⟩ PySem.F.entry_list_pop (PySem.F.args_list_pop_1 _) (list_pop_last a xs n y hy' (by have:=fB;lia)) ⟨g,?_⟩
 refine listUpd (f:=λz=>z.eraseIdxIfInBounds (xs.size - 1)) ok ha g (λh' ky=>?_) q ry
 have e:(xs.eraseIdxIfInBounds (xs.size - 1)).toList=xs.toList.dropLast:=by
  have h0:=(dB.mp hy').1
  rw[Array.toList_eraseIdxIfInBounds,List.dropLast_eq_take,List.eraseIdx_eq_take_drop_succ,jj,List.drop_eq_nil_of_le (by rw[jj];lia),bD]
 rw[e];exact(rz.keep ky).dropLast
theorem y4{vs:List V}{ns:List Int}{F:Addr→Prop}{h:Heap}{xs:Array Value}(r:VRs P.nm F h vs xs.toList)(e:lh vs=some ns):∃g:Value→Int,(∀y∈xs,∃t,y= .int (g y) t)∧ns=xs.toList.map g:=by
 have hI:=lK r e
 refine⟨λy=>match y with| .int i _=>i|_=>0,?_,?_⟩
 ·intro y hy
  have:∀{l:List Value}{ms:List Int},qg l ms→y∈l→∃i t,y= .int i t:=by
   intro l ms hI hy
   induction hI with
   |nil=>cases hy
   |cons n t _ ih=>rcases am.mp hy with z|z
                   ·exact⟨_,_,z⟩
                   ·exact ih z
  obtain⟨i,t,rfl⟩:=this hI (by simpa using hy)
  exact⟨t,rfl⟩
 ·clear r e
  generalize xs.toList=l at hI
  induction hI with
  |nil=>rfl
  |cons n t _ ih=>simp only[ar];rw[←ih]
noncomputable def ye:DC:=λvs Q X hp=>∃v us ns k,vs=[v,.int k]∧cg hp v=some us∧lh us=some ns∧us.length≤lim∧k∈ns∧Q (.int (ns.idxOf k)) hp
theorem ww{xs:Array Value}{g:Value→Int}{k:Int}(hg:∀y∈xs,∃t,y= .int (g y) t)(hk:k∈xs.toList.map g){t:Tok}:∃hj:(xs.toList.map g).idxOf k<xs.size,(∀y,y∈xs→EqGives y (.int k t) (g y==k))∧(g xs[(xs.toList.map g).idxOf k]==k)=true∧∀m (hm:m<xs.size),m<(xs.toList.map g).idxOf k→(g xs[m]==k)=false:=by
 have hj:(xs.toList.map g).idxOf k<xs.size:=by have:=bh hk;simpa using this
 refine⟨hj,λy hy=>?_,?_,λm hm hlt=>?_⟩
 ·refine(hg y hy).elim λt' e=>?_
  have:=EqGives.int (g y) k t' t
  rw[←e]at this;exact this
 ·have h1:=cf (xs:=xs.toList.map g) (x:=k) (by simpa using hj)
  simp only[kK,Array.getElem_toList]at h1
  rw[h1];simp
 ·cases q:g xs[m]==k with
  |false=>rfl
  |true=>
   exfalso
   have e:g xs[m]=k:=by simpa using q
   have h2:(xs.toList.map g)[m]'(by simpa using hm)=k:=by simp[e]
   have h4:=List.not_of_lt_findIdx (p:=(·==k)) (xs:=xs.toList.map g) (i:=m) hlt
   simp[e]at h4
theorem OkC.index:OkC P Fl d (.builtin "list.index") ye:=by
 rintro A s Q X hp stk vs xs rm fs ok r ⟨v,us,ns,k,hv,hu,hns,hl,hk,q⟩
 subst hv
 obtain⟨x,ys,rfl,rx,y,zs,rfl,ry,rfl⟩:=r
 obtain⟨t,rfl⟩:=ry
 obtain⟨a,xs,rfl,⟨n,g⟩,rz⟩:=bz ok rx hu
 obtain⟨gg,hg,rfl⟩:=y4 rz hns
 refine(ww (t:=t) hg hk).elim λhj r1_=>r1_.elim λh1 r2_=>r2_.elim λh2 h3=>?_
 have hz:=gO rz
 unfold lim at hl
 exact fX PySem.F.slot_list_index ⟨_,g,rfl⟩ PySem.F.entry_list_index (PySem.F.args_list_index_2 _ _) (list_index a xs n _ (λy=>gg y==k) h1 _ hj (by lia) h2 h3) ⟨g,gY ok q vInt⟩
noncomputable def xp:DC:=λvs Q X hp=>∃a es ep k,vs=[.ref a,.int k]∧hp a=some (.dict es ep)∧Q ((sw es k).getD .none) hp
theorem OkC.get(hz:(P.H₀.get? sysModules).isSome=true):OkC P Fl d (.builtin "dict.get") xp:=by
 rintro A s Q X hp stk vs xs rm fs ok r ⟨a,es,ep,k,hv,ha,q⟩
 subst hv
 obtain⟨x,ys,rfl,rx,y,zs,rfl,ry,rfl⟩:=r
 simp only[VRe]at rx ry
 subst rx
 obtain⟨t,rfl⟩:=ry
 refine(ok.obj _ _ ha).elim λkvs r1_=>r1_.elim λhd er=>?_
 replace hd:=hd.dictOf
 refine yr PySem.F.slot_dict_get hd.typeIs PySem.F.entry_dict_get (PySem.F.args_dict_get_2 _ _) (meets_dict_get (intKind P.prog P.w) a (k:=k) (kr _ _ _ _) (mP ok ha hz)) ⟨_,hd.mapOf,?_⟩
 refine gY ok q ?_
 cases e:sw es k with
 |none=>rw[er.none e];exact vNone
 |some v=>obtain⟨y,hy,ry⟩:=er.at e;rw[hy];exact ry
noncomputable def vo:DC:=λvs Q X hp=>∃a es ep,vs=[.ref a]∧hp a=some (.dict es ep)∧Q (.vals a) hp
theorem OkC.values(hz:(P.H₀.get? sysModules).isSome=true):OkC P Fl d (.builtin "dict.values") vo:=by
 rintro A s Q X hp stk vs xs rm fs ok r ⟨a,es,ep,hv,ha,q⟩
 subst hv
 obtain⟨x,ys,rfl,rx,rfl⟩:=r
 cases rx
 refine(ok.obj _ _ ha).elim λkvs r1_=>r1_.elim λhd er=>?_
 replace hd:=hd.dictOf
 refine yr PySem.F.slot_dict_values hd.typeIs PySem.F.entry_dict_values (PySem.F.args_dict_values_1 _) (meets_dict_values (intKind P.prog P.w) a (mP ok ha hz)) ⟨⟨_,hd⟩,?_⟩
 refine k7 (tk:=s.toks) ok (λb o e=>an _ e) q ?_
 simp only[VRe]
 exact⟨_,rfl,ja ok,aw _ rfl⟩
noncomputable def BX:DC:=λvs Q X hp=>∃a xs k,vs=[.ref a,.int k]∧hp a=some (.set xs)∧xs.length+1<scanBound∧Q .none (upd hp a (.set (if k∈xs then xs else k::xs)))
theorem OkC.add:OkC P Fl d (.builtin "set.add") BX:=by
 rintro A s Q X hp stk vs ys rm fs ok r ⟨a,xs,k,hv,ha,hl,q⟩
 subst hv
 obtain⟨x,ys,rfl,rx,y,zs,rfl,ry,rfl⟩:=r
 simp only[VRe]at rx ry
 subst rx
 obtain⟨t,rfl⟩:=ry
 have hS:=ok.obj _ _ ha
 refine call_set_add (knd:=intKind P.prog P.w) (k:=k) (kr _ _ _ _) rfl hS hl λh' sb hS'=>?_
 refine⟨_,Ext.change (own:=no1) (tk:=s.toks+1) ok ha sb (by obtain⟨o,_,_,_,g,_⟩:=hS';exact⟨o,g⟩),ok.change (tk:=s.toks+1) ha sb ?_,_,q,vNone⟩
 have e1:(λk'=>decide (k'∈xs)||decide (k'=k))=λk'=>decide (k'∈(if k∈xs then xs else k::xs)):=by
  funext k'
  by_cases hk:k∈xs
  ·rw[if_pos hk]
   by_cases h2:k'=k
   ·subst h2;simp[hk]
   ·simp[h2]
  ·rw[if_neg hk]
   by_cases h2:k'=k<;>simp[h2,CZ]
 have e2:(if decide (k∈xs)=true then xs.length else xs.length+1)=(if k∈xs then xs else k::xs).length:=by
  by_cases hk:k∈xs<;>simp[hk]
 rw[e1]at hS'
 have hS2:=hS'
 rw[e2]at hS2
 exact hS2
end Mine
namespace Mine
variable{P:dH}{Fl:iq}{d:Nat}{sc:Scope}{ex:Nat→Value}
theorem uX:C8 "list_iterator" "__getattribute__" "object.__getattribute__" :=
 .of (owner:= "object") (n:= "__getattribute__") (by rw[jV,gF];kernel_rfl) (by decide+kernel) (by decide+kernel) (by decide+kernel)
  (by first|exact .inl (by decide+kernel)|exact .inr (by decide+kernel)) (by rw[i3];kernel_rfl)
theorem yY:entryFor table "object.__getattribute__" =some Builtin.«object.__getattribute__»:=DX (by kernel_rfl)
theorem Ax(a b:Value):argsOk "object.__getattribute__" ⟨[a,b],[]⟩:=by unfold argsOk;kernel_rfl
theorem Aw:typeLookup (.type "list_iterator") "__next__" =pure (some (.builtin "list_iterator.__next__")):=by rw[jV,gF];kernel_rfl
theorem rK:typeOf (.builtin "list_iterator.__next__")=pure (.type "wrapper_descriptor"):=by show builtinType _=_;rw[builtinType_eq_fast];kernel_rfl
theorem t0:C8 "wrapper_descriptor" "__get__" "wrapper_descriptor.__get__" :=
 .of (owner:= "wrapper_descriptor") (n:= "__get__") (by rw[jV,gF];kernel_rfl) (by decide+kernel) (by decide+kernel) (by decide+kernel)
  (by first|exact .inl (by decide+kernel)|exact .inr (by decide+kernel)) (by rw[i3];kernel_rfl)
theorem B3:typeLookup (.type "wrapper_descriptor") "__set__" =pure none:=by rw[jV,gF];kernel_rfl
theorem B5:typeLookup (.type "wrapper_descriptor") "__delete__" =pure none:=by rw[jV,gF];kernel_rfl
theorem yy:entryFor table "wrapper_descriptor.__get__" =some Builtin.«wrapper_descriptor.__get__»:=DX (by kernel_rfl)
theorem Aa(a b c:Value):argsOk "wrapper_descriptor.__get__" ⟨[a,b,c],[]⟩:=by unfold argsOk;kernel_rfl
theorem Ck:isSubtype (.type "list_iterator") (.type "list_iterator")=pure true:=by rw[i3];kernel_rfl
theorem yX:(".".intercalate ("list_iterator.__next__".cutAt '.').dropLast)= "list_iterator" :=by
 have e0: "list_iterator.__next__".cutAt '.'=["list_iterator", "__next__"]:=by first|rfl|decide+kernel
 rw[e0];decide+kernel
section
variable{prog:Program}{w:d5}{A:aC}{E:Value→af→Prop}{h:Heap}{g:Array GenState}{dr:Drawn}{t:Nat}{os:CO}{a:Addr}{o:Obj}
theorem yQ{R:rc→af→Prop}(hx:h.get? a=some o)(hc:o.cls= .type "list_iterator")
 (hq:R (.ok (.ret (.ref h.objs.size))) ⟨h.push {cls:=.type "method-wrapper",data:=.fields #[.builtin "list_iterator.__next__",.ref a]},g,dr,t,os⟩):
 codeAny (model prog w) A (.call (.builtin "wrapper_descriptor.__get__") ⟨[.builtin "list_iterator.__next__",.ref a,.type "list_iterator"],[]⟩) R ⟨h,g,dr,t,os⟩:=by
 have hT:(⟨h,g,dr,t,os⟩:af).TypeIs (.ref a) "list_iterator" :=⟨_,hx,hc⟩
 have hT5:(⟨h,g,dr,t,os⟩:af).TypeIs (.builtin "list_iterator.__next__") "wrapper_descriptor" :=rK
 have f8:isSubtype (.type "list_iterator") (.type (".".intercalate ("list_iterator.__next__".cutAt '.').dropLast))=pure true:=by rw[yX];exact Ck
 refine nY t0.plain yy (t0.check _ _ _ _ _ _ _ _ hT5 (Aa _ _ _) ?_)
 repeat (any_goals (first|assumption|wp_step))
theorem uD{tk:Tok}{Q:Fin→af→Prop}(hx:h.get? a=some o)(hc:o.cls= .type "list_iterator")(hdn:o.dict=none){vs:Array Value}(hdd:o.data= .fields vs)
 (hq:Q (.done (.ret (.ref h.objs.size))) ⟨h.push {cls:=.type "method-wrapper",data:=.fields #[.builtin "list_iterator.__next__",.ref a]},g,dr,t,os⟩):
 wpAny (model prog w) A (Builtin.«object.__getattribute__» ⟨[.ref a,.str "__next__" tk],[]⟩) Q E ⟨h,g,dr,t,os⟩:=by
 have hT:(⟨h,g,dr,t,os⟩:af).TypeIs (.ref a) "list_iterator" :=⟨_,hx,hc⟩
 have hT5:(⟨h,g,dr,t,os⟩:af).TypeIs (.builtin "list_iterator.__next__") "wrapper_descriptor" :=rK
 have f4:=Aw
 have f5:=rK
 have f6:=t0.lookup
 have f7:=B3
 have f8:=B5
 repeat (any_goals (first|assumption|wp_step))
 rw[hdd]
 show wpAny _ _ (instanceDict a false) _ _ _
 refine wpAny_bind (uq hx ?_)
 rw[hdn,hc]
 repeat (any_goals (first|assumption|wp_step))
 exact yQ hx hc (wpAny_pure hq)
theorem wf{expr:Bool}{Q:Value→af→Prop}(hx:h.get? a=some o)(hc:o.cls= .type "list_iterator")(hdn:o.dict=none){vs:Array Value}(hdd:o.data= .fields vs)
 (hq:Q (.ref h.objs.size) ⟨h.push {cls:=.type "method-wrapper",data:=.fields #[.builtin "list_iterator.__next__",.ref a]},g,dr,t+1,os⟩):
 wpAny (model prog w) A (getAttr (.ref a) "__next__" expr) Q E ⟨h,g,dr,t,os⟩:=by
 have hT:∀t,(⟨h,g,dr,t,os⟩:af).TypeIs (.ref a) "list_iterator" :=λt=>⟨_,hx,hc⟩
 have f2:=uX.lookup
 unfold getAttr
 refine wpAny_bind (GD ?_)
 unfold getAttrBy
 refine wpAny_holding (wpAny_bind (wpAny_typeOf (hT _) (wpAny_bind ?_)))
 rw[f2]
 refine wpAny_pure ?_
 show wpAny _ _ (if(onTheHeap (hP "list_iterator")&&_)=true then _ else _) _ _ _
 rw[if_neg (by rw[show onTheHeap (hP "list_iterator")=false from rfl];simp)]
 unfold getAttrByItsOwn
 refine wpAny_bind (wpAny_of_eq (a:=none) (by unfold hookBefore;rw[show onTheHeap (hP "list_iterator")=false from rfl];rfl) ?_)
 refine wpAny_bind (F8 (wpAny_holding ?_))
 unfold callGetattribute
 rw[show(expr&&onTheHeap (Value.builtin "object.__getattribute__"))=false from by cases expr<;>rfl,if_neg (by decide)]
 unfold boundAndCalled
 have f3:=uX.bind (.ref a)
 refine wpAny_bind (wpAny_of_eq f3 ?_)
 refine wpAny_call (nY uX.plain yY (uX.check _ _ _ _ _ _ _ _ (hT _) (Ax _ _) (uD hx hc hdn hdd ?_)))
 show wpAny _ _ (handedOut (.ref h.objs.size)) _ _ _
 rw[yq rfl]
 exact wpAny_pure hq
end
end Mine
namespace Mine
variable{P:dH}{Fl:iq}{d:Nat}{sc:Scope}{ex:Nat→Value}
theorem yZ(a:Value):checkBoundCall "list_iterator.__next__" ⟨[a],[]⟩=pure ():=by kernel_rfl
theorem nextCall{prog:Program}{w:d5}{A:aC}{s:af}{m it:Addr}{R:rc→af→Prop}(gm:s.heap.get? m=some {cls:=.type "method-wrapper",data:=.fields #[.builtin "list_iterator.__next__",.ref it]})
 (h:wpAny (model prog w) A.in1 (Builtin.«list_iterator.__next__» ⟨[.ref it],[]⟩) (λfin s'=>match fin with| .done f=>R (.ok f) s'| .again c'=>c'.quiet=true∧codeAny (model prog w) A c' R s') (λe s'=>R (.error e) s') s):
 codeAny (model prog w) A (.call (.ref m) ⟨[],[]⟩) R s:=by
 refine Ei ?_
 show wpAny _ _ (callAny (.ref m) _) _ _ _
 obtain⟨hh,g,dr,t,os⟩:=s
 dsimp only at gm
 unfold callAny
 refine wpAny_bind (wpAny_load gm ?_)
 dsimp only
 rw[if_pos (by decide)]
 show wpAny _ _ (if(hP "method-wrapper" !=hP "method")=true then(do checkBoundCall "list_iterator.__next__" ⟨[.ref it],[]⟩;again (.builtin "list_iterator.__next__" ⟨[.ref it],[]⟩))else _) _ _ _
 rw[if_pos (by decide)]
 refine wpAny_bind (wpAny_of_eq (yZ _) ?_)
 refine wpAny_pure (⟨xd _ (by decide+kernel),Ej Bt ?_⟩)
 exact h
theorem yR{prog:Program}{w:d5}{A:aC}{E:Value→af→Prop}{s:af}{it l:Addr}{i:Nat}{items:Array Value}{x:Value}{Q:Fin→af→Prop}(hit:s.heap.IsListIter it l i)(hl:s.heap.IsList l items)(hx:items[i]?=some x)
 (hQ:∀h',h'.IsListIter it l (i+1)→bP it s.heap h'→(∀o,s.heap.get? it=some o→∃o',h'.get? it=some o'∧o'.dict=o.dict)→Q (.done (.ret x)) {s with heap:=h'}):
 wpAny (model prog w) A (Builtin.«list_iterator.__next__» ⟨[.ref it],[]⟩) Q E s:=by
 obtain⟨o,ho,hc,hd⟩:=id hit
 obtain⟨ol,hol,_,nl,hdl⟩:=hl
 show wpAny _ _ (field (.ref it) 0>>= _) _ _ s
 refine wpAny_bind (ci ho hd (x:=.ref l) rfl ?_)
 show wpAny _ _ (if(dK l==bf)=true then _ else _) _ _ s
 rw[if_neg (show¬((dK l==bf)=true)from bL)]
 show wpAny _ _ (field (.ref it) 1>>= _) _ _ s
 refine wpAny_bind (ci ho hd (x:=.int i 0) rfl ?_)
 show wpAny _ _ (seqItems? (.ref l)>>= _) _ _ s
 refine wpAny_bind (gS hol hdl ?_)
 simp only[c7,hx]
 have g':=cj (de (·.setIfInBounds 1 (rawInt ((i:Int)+1)))) ho (iY (eP hd _))
 refine wpAny_bind (kB ho hd (by simp) (wpAny_pure (hQ _ ?_ (bS ..) λo2 h2=>⟨_,g',?_⟩)))
 ·exact⟨_,g',(Obj.cls_mapFields ..).trans hc,by rw[eP hd];simp[rawInt]⟩
 ·rw[ho]at h2;cases h2
  obtain⟨c,dd,dt,sl⟩:=o
  simp only at hd;subst hd;rfl
theorem Aq{prog:Program}{w:d5}{A:aC}{E:Value→af→Prop}{s:af}{it l:Addr}{i:Nat}{items:Array Value}{Q:Fin→af→Prop}(hh:A.handled=none)(hit:s.heap.IsListIter it l i)(hl:s.heap.IsList l items)(hx:items[i]?=none)
 (hQ:∀h' (oI:Obj),s.heap.get? it=some oI→BC (s.heap.update it (de (·.setIfInBounds 0 bf))) h' (s.heap.objs.size+1) (.type "StopIteration") []→E (.ref (s.heap.objs.size+1)) {s with heap:=h'}):
 wpAny (model prog w) A (Builtin.«list_iterator.__next__» ⟨[.ref it],[]⟩) Q E s:=by
 obtain⟨o,ho,hc,hd⟩:=id hit
 obtain⟨ol,hol,_,nl,hdl⟩:=hl
 show wpAny _ _ (field (.ref it) 0>>= _) _ _ s
 refine wpAny_bind (ci ho hd (x:=.ref l) rfl ?_)
 show wpAny _ _ (if(dK l==bf)=true then _ else _) _ _ s
 rw[if_neg (show¬((dK l==bf)=true)from bL)]
 show wpAny _ _ (field (.ref it) 1>>= _) _ _ s
 refine wpAny_bind (ci ho hd (x:=.int i 0) rfl ?_)
 show wpAny _ _ (seqItems? (.ref l)>>= _) _ _ s
 refine wpAny_bind (gS hol hdl ?_)
 simp only[c7,hx]
 refine wpAny_bind (wpAny_rule (wpAny_bind (kB ho hd (by simp) ?_)))
 show wpAny _ _ (newExc (.type "StopIteration") []>>= _) _ _ _
 refine wpAny_bind ?_
 simp only[newExc,newTuple]
 refine wpAny_bind (d6 ?_ (by size_fits))
 refine wpAny_bind (m:=firstArgMember _ _) (wpAny_of_eq (a:=bf) (by first|rfl|(simp only[firstArgMember];rfl)) ?_)
 refine d6 ?_ (by size_fits)
 unfold raiseNew
 refine wpAny_bind (vS ?_)
 rw[hh]
 refine wpAny_bind (wpAny_pure (zY ?_))
 generalize hH:s.heap.update it (de (·.setIfInBounds 0 bf))=H at hQ⊢
 have hz:H.objs.size=s.heap.objs.size:=by rw[←hH];exact zL ..
 have hz2:(H.push {cls:=.type "tuple",dict:=none,data:=.seq ([]:List Value).toArray}).objs.size=s.heap.objs.size+1:=by rw[c9,hz]
 rw[hz2]
 refine hQ _ o ho ⟨λb ob hb=>an _ (an _ hb),?_,H.objs.size,?_,?_,?_⟩
 ·cases q:H.get? (s.heap.objs.size+1)with
  |none=>rfl
  |some ob=>have:=bJ q;rw[hz]at this;exact absurd this (fN.mpr (gC _))
 ·rw[←hz2];exact aw _ rfl
 ·exact eV H
 ·exact an _ (aw _ rfl)
end Mine
namespace Mine
variable{P:dH}{Fl:iq}{d:Nat}{sc:Scope}{ex:Nat→Value}
noncomputable def xG:DC:=λvs Q X hp=>∃l us,vs=[.ref l]∧hp l=some (.lst us)∧∀I,hp I=ae→Q (.ref I) (upd hp I (.it l 0))
theorem OkC.iter:OkC P Fl d (.builtin "iter") xG:=by
 rintro A s Q X hp stk vs xs rm fs ok r ⟨l,us,hv,hl,q⟩
 subst hv
 simp only[VRse]at r
 obtain⟨x,ys,rfl,rx,rfl⟩:=r
 simp only[VRe]at rx
 subst rx
 obtain⟨xs,p,rz⟩:=ok.obj _ _ hl
 refine call_function_entry (by decide+kernel) (by decide+kernel) kdk_entry_iter (kdk_args_iter _) ?_
 unfold Builtin.«iter»
 refine wpAny_bind (m:=someArgs "iter" 1 2 _) (wpAny_of_eq (a:=[dK l]) (by first|rfl|kernel_rfl!) ?_)
 show wpAny _ _ (pyIter (.ref l)>>= _) _ _ _
 refine wpAny_bind (kW p.isList ?_)
 refine wpAny_pure ⟨_,rfl,?_⟩
 refine newTracked (tk:=s.toks) (o:=.it l 0) ok rfl ?_ q
 exact⟨⟨_,aw _ rfl,rfl,rfl⟩,_,aw _ rfl,rfl⟩
noncomputable def ul:V→(V→Hp→Prop)→Hp→Prop:=λo Q hp=>match o with
 | .ref I=>∃l k,hp I=some (.it l k)∧Q (.nxt I) hp
 |_=>False
set_option tactic.hygienic true in
theorem OkGet.next:OkGet P "__next__" ul:=by
 intro A s hp stk o x b Q X ok ro h
 cases o<;>first|exact h.elim|skip
 rename_i I
 obtain⟨l,k,hI,q⟩:=h
 simp only[VRe]at ro
 subst ro
 obtain⟨⟨ob,g,hc,hd⟩,o2,g2,hdn⟩:=ok.obj _ _ hI
 rw[g]at g2;cases g2
 obtain⟨hh,gg,dr,t,os⟩:=s
 refine wf g hc hdn hd ?_
 refine k7 (s:=⟨hh,gg,dr,t,os⟩) (tk:=t+1) ok (λb o e=>an _ e) q ?_
 simp only[VRe]
 exact⟨_,rfl,ja (s:=⟨hh,gg,dr,t,os⟩) ok,aw _ rfl⟩
theorem Sim.getAttr{n:Str}{f:V→(V→Hp→Prop)→Hp→Prop}(hf:OkGet P n f){o:Expr}{pos:Pos}{D:DE}(h:bU P Fl d sc o D)(hb:∀env,attributeBase o n env (eval o env)=eval o env):bU P Fl d sc (.Attribute o n pos) (cX f D):=by
 intro A env s Q X loc hp stk rm hs ev ok hD
 rw[T,kF,hb env]
 refine wpAny_bind ((h A env s _ X loc hp stk rm hs ev ok hD).thn λx hp1 s1 e1 ok1 hq=>?_)
 obtain⟨v,q,r⟩:=hq
 refine wpAny_bind (wpAny_standAt (wpAny_bind (wpAny_holding (wpAny_mono (hf A s1 hp1 stk v x true _ (lX Fl X) ok1 r q) (λy s2 z=>?_) λw w z=>z.back P e1))))
 exact wpAny_bind (jG (wpAny_pure (z.back P e1)))
noncomputable def xE(e:DE):DE:=λQ X loc hp=>e (λv hp1=>∃I l k us,v= .nxt I∧hp1 I=some (.it l k)∧hp1 l=some (.lst us)∧match us[k]? with
 |some u=>Q u (upd hp1 I (.it l (k+1)))
 |ae=>X 0 (del hp1 I)) X loc hp
theorem Sim.next(hd:0<d)(hex:ex 0= .type "StopIteration"){f:Expr}{pos:Pos}{D:DE}(h:bU P (dy ex) d sc f D)
 (hc:∀env,eval (.Call f [] [] pos) env=(do callWith pos (←eval f env) [] (backTo pos (starEach [] env)) [])):bU P (dy ex) d sc (.Call f [] [] pos) (xE D):=by
 intro A env s Q X loc hp stk rm hs ev ok hD
 rw[T,hc env]
 refine wpAny_bind ((h A env s _ X loc hp stk rm hs ev ok hD).thn λx hp1 s1 e1 ok1 hq=>?_)
 obtain⟨v,⟨I,l,k,us,hv,hI,hl,q⟩,r⟩:=hq
 subst hv
 simp only[VRe]at r
 obtain⟨m,rfl,fm,gm⟩:=r
 refine kC (R:=λh=>h.get? m=some {cls:=.type "method-wrapper",data:=.fields #[.builtin "list_iterator.__next__",.ref I]}) (λh g=>⟨_,.inr (.inl rfl),?_⟩) (PySem.evalArgs_none ⟨gm,?_⟩)
 ·unfold keeperOf
  exact(Fk (part:=none) g).andThen (ka (by kernel_rfl))
 obtain⟨xs,p,rz⟩:=ok1.obj _ _ hl
 obtain⟨hit,o2,g2,hdn⟩:=ok1.obj _ _ hI
 have hIl:I≠l:=by rintro rfl;rw[hI]at hl;cases hl
 refine wpAny_call (nextCall gm ?_)
 cases hu:us[k]? with
 |some u=>
  rw[hu]at q
  obtain⟨y,hy,ry⟩:=rz.get hu
  refine yR hit p.isList (x:=y) (by rw[←cL];exact hy) λh' hit' sb kd=>?_
  obtain⟨o3,g3,hd3⟩:=kd _ g2
  have e2:Ext no1 stk hp1 s1 (upd hp1 I (.it l (k+1))) {s1 with heap:=h'}:=Ext.change (tk:=s1.toks) ok1 hI sb ⟨_,g3⟩
  have ok2:HeapOk P stk (upd hp1 I (.it l (k+1))) {s1 with heap:=h'}:=ok1.change (tk:=s1.toks) hI sb ⟨hit',o3,g3,hd3.trans hdn⟩
  exact⟨_,e1.trans e2,ok2,u,q,fE e2 ry⟩
 |none=>
  rw[hu]at q
  have hl2:xs[k]?=ae:=by
   rw[qy,gO rz]
   exact sk.mp hu
  refine Aq (rm.hd hd) hit p.isList hl2 λh' oI hoI hm=>?_
  obtain⟨ob,gI,hcI,hdI⟩:=id hit
  have sb:bP I s1.heap (s1.heap.update I (de (·.setIfInBounds 0 bf))):=bS ..
  have g':=cj (de (·.setIfInBounds 0 bf)) gI (iY (eP hdI _))
  have okA:HeapOk P stk (upd hp1 I .fld) {s1 with heap:=s1.heap.update I (de (·.setIfInBounds 0 bf))}:=ok1.change (tk:=s1.toks) hI sb ⟨_,_,g',eP hdI _⟩
  have eA:Ext no1 stk hp1 s1 (upd hp1 I .fld) {s1 with heap:=s1.heap.update I (de (·.setIfInBounds 0 bf))}:=Ext.change (tk:=s1.toks) ok1 hI sb ⟨_,g'⟩
  have okB:=okA.drop I
  have eB:=eA.trans (Ext.drop (own:=no1) (stk:=stk) I)
  have hdel:del (upd hp1 I O.fld) I=del hp1 I:=by
   funext b
   by_cases z:b=I
   ·subst z;simp
   ·rw[del_ne z,del_ne z,upd_ne z]
  rw[hdel]at okB eB
  obtain⟨hp3,e3,ok3,f3⟩:=ve (own:=no1) (k:=0) (ex:=ex) okB hm hex
  exact⟨hp3,(e1.trans eB).trans e3,ok3,(0,del hp1 I),q,f3⟩
theorem ok_iadd:pc P Fl (inplaceOp .Add) (mj (·+·)):=okInt b2_inv λA s G E i j t t' z k=>Gp (k _ _ λz z=>vInt)
theorem ok_isub:pc P Fl (inplaceOp .Sub) (mj (·- ·)):=okInt b2_inv λA s G E i j t t' z k=>Go (k _ _ λz z=>vInt)
end Mine
namespace Mine
variable{P:dH}{Fl:iq}{d:Nat}{sc:Scope}{ex:Nat→Value}
theorem wy(l:List Nat):∀(k:Nat)(acc:Array Nat),iU (·++·) acc (aB k l.toArray)=(acc.toList++(aB k l).flatten).toArray:=by
 intro n_
 induction n_ with
 |zero=>
  intro acc
  simp
 |succ k ih=>
  intro acc
  simp[cV,ih,b7]
theorem Cg(l:List Nat)(n:Int):GT ⟨l.toArray⟩ n=⟨((aB n.toNat l).flatten).toArray⟩:=by
 unfold GT
 split
 ·rename_i h
  have:n.toNat=0:=by lia
  rw[this];rfl
 ·split
  ·rename_i h1 h2
   simp only[A1,beq_iff_eq]at h2
   rcases h2 with h2|h2
   ·subst h2;simp
   ·have:l=[]:=by
     have:l.length=0:=by simpa[Fi]using h2
     exact kN.mp this
    subst this;simp
  ·simp only[wy]
   simp
noncomputable def kG:B2:=λx y Q hp=>bothO (k9 x) (k9 y) (λa b=>(small a∨small b)∧Q (.int (a*b)) hp)
 (bothO (u6 x) (k9 y) (λl n=> -(10 ^ 9)<n∧n<10 ^ 9∧l.length*n.toNat≤lim∧Q (.str (aB n.toNat l).flatten) hp)
  (∃n,y= .int n∧∃vs,cg hp x=some vs∧ -(10 ^ 9)<n∧n<10 ^ 9∧vs.length*n.toNat≤lim∧Q (.lst (aB n.toNat vs).flatten) hp))
theorem wL{v u:V}{Q:V→Hp→Prop}{hp:Hp}(h:kG v u Q hp):(∃a b,v= .int a∧u= .int b∧(small a∨small b)∧Q (.int (a*b)) hp)∨(∃l n,v= .str l∧u= .int n∧ -(10 ^ 9)<n∧n<10 ^ 9∧l.length*n.toNat≤lim∧Q (.str (aB n.toNat l).flatten) hp)∨∃n,u= .int n∧∃vs,cg hp v=some vs∧ -(10 ^ 9)<n∧n<10 ^ 9∧vs.length*n.toNat≤lim∧Q (.lst (aB n.toNat vs).flatten) hp:=by
 rcases bothO_inv h with⟨i,j,e1,e2,h⟩|h
 ·exact .inl ⟨i,j,asInt_inv e1,asInt_inv e2,h⟩
 ·rcases bothO_inv h with⟨i,j,e1,e2,h⟩|h
  ·exact .inr (.inl ⟨i,j,asStr_inv e1,asInt_inv e2,h⟩)
  ·exact .inr (.inr h)
theorem VRs.rep{F:Addr→Prop}{h:Heap}{vs:List V}{xs:List Value}(r:VRs P.nm F h vs xs):∀k:Nat,VRs P.nm F h (aB k vs).flatten (aB k xs).flatten:=by
 intro n_
 induction n_ with
 |zero=>
  simpa using vNil
 |succ k ih=>
  simpa[cV]using r.append (ih)
theorem Ar{A:aC}{E:Value→af→Prop}{prog:Program}{w:d5}{s:af}{l:Addr}{items:Array Value}{k:Nat}{x:Int}{u:Tok}{Q:Value→af→Prop}(hl:IsL s.heap l items k)(hlo: -(2 ^ 63:Int)≤x)(hhi:x<2 ^ 63)(hsz:items.size*x.toNat≤2 ^ 24)
 (h:Q (.ref s.heap.objs.size) {s with heap:=s.heap.push {cls:=.type "list",data:=.seq (iU (λx1 x2=>x1++x2) #[] (aB (if items.isEmpty=true then 0 else x.toNat) items))}}):
 wpAny (model prog w) A (binaryOp .Mult (.ref l) (.int x u)) Q E s:=
 wpAny_binaryOp_repeat_ref (T:= "list") (U:= "int") (by decide) ⟨_,hl,rfl⟩ (λs'=>typeIs_int s' x u) noFill_list_mul PySem.F.fills_int_mul PySem.F.slot_int_rmul repeat_list PySem.F.slot_int_index.lookup
  (fX PySem.F.slot_int_rmul (typeIs_int s x u) PySem.F.entry_int_rmul (PySem.F.args_int_rmul_2 _ _) (int___rmul___int_list x u l items k)
   ⟨hl,rfl,⟨_,hl,rfl⟩,fX PySem.F.slot_list_mul ⟨_,hl,rfl⟩ PySem.F.entry_list_mul (PySem.F.args_list_mul_2 _ _)
    (GO l items k x u (by rw[EJ];lia) (by lia) (by simp[EH,sizeLine];lia)) ⟨hl,h⟩⟩)
theorem mO:pc P Fl (binaryOp .Mult) kG:=by
 intro A s Q X hp stk v u x y rm ok rv ru h
 have lists:∀n:Int,u= .int n→(∃vs,cg hp v=some vs∧ -(10 ^ 9)<n∧n<10 ^ 9∧vs.length*n.toNat≤lim∧Q (.lst (aB n.toNat vs).flatten) hp)→T P no1 stk A (binaryOp .Mult x y) hp s (PV P stk Q) (lX Fl X):=by
  rintro n rfl ⟨vs,hv,h1,h2,h3,q⟩
  obtain⟨t,rfl⟩:=ru
  obtain⟨a,xs,rfl,⟨k,g⟩,rz⟩:=bz ok rv hv
  have hz:=gO rz
  unfold lim at h3
  refine Ar g (by lia) (by lia) (by rw[hz];lia) ?_
  refine j7 (tk:=s.toks) ok ?_ q
  rw[listMul_foldl]
  dsimp only[a8,Array.toList_empty]
  cases hE:xs.isEmpty with
  |true=>
   have h0:xs.toList=[]:=by
    have:xs= #[]:=by simpa using hE
    rw[this]
   rw[h0]at rz⊢
   have:=VRs.rep rz n.toNat
   simpa using this
  |false=>simpa using VRs.rep rz n.toNat
 rcases wL h with⟨a,b,rfl,rfl,hc,h⟩|⟨l,n,rfl,rfl,h1,h2,h3,q⟩|⟨n,rfl,h5⟩
 ·obtain⟨t,rfl⟩:=kq rv
  obtain⟨t',rfl⟩:=kq ru
  exact wi hc λy tk hy=>gY ok h (hy _ _)
 rotate_left
 ·exact lists _ rfl h5
 ·obtain⟨t,rfl⟩:=rL rv
  refine(kq ru).elim λt' e1_=>?_;subst e1_
  refine SB.mul ⟨?_,λhn hx=>?_,λhn hx=>?_⟩ λt' k=>?_
  ·rw[decide_eq_false (by lia),decide_eq_false (by lia)];rfl
  ·have hl:((⟨l.toArray⟩:Str).length:Int)=l.length:=rfl
   rw[hl]
   have h4:(l.length:Int)*n≤lim:=by
    have:((l.length*n.toNat:Nat):Int)≤(lim:Nat):=by exact_mod_cast h3
    rw[Int.natCast_mul,jD (by lia)]at this
    exact this
   have h5:(l.length:Int)≤(2 ^ 63 - 1) / n:=by
    rw[Int.le_ediv_iff_mul_le (by lia)]
    unfold lim at h4;lia
   lia
  ·have hl:(⟨l.toArray⟩:Str).length=l.length:=by simp[Fi]
   rw[hl]
   unfold FT
   have:=fB
   simp only[decide_eq_false_iff_not];lia
  ·rw[Cg];exact gY ok q xk
theorem meets_bool_list(a:Addr)(xs:Array Value)(hfit:(xs.size:Int)<2 ^ 63):Meets (Builtin.«bool.__new__» ⟨[.type "bool",.ref a],[]⟩) (λz R s=>s.heap.IsList a xs∧R (.ok (.ret (.bool (!xs.isEmpty)))) {s with toks:=s.toks+1+1}):=
 Meets.of_wp λprog w A R s ⟨hl,hs⟩=>by
  obtain⟨hp,g,d,tk,os⟩:=s
  have f1:=PySem.F.conv_sub_bool
  repeat (any_goals (first|assumption|with_reducible apply CR hl hfit|wp_step))
  all_goals first|exact⟨_,rfl,hs⟩|skip
noncomputable def Bi:DC:=λvs Q X hp=>∃v us,vs=[v]∧cg hp v=some us∧us.length≤lim∧Q (.bool (!us.isEmpty)) hp
theorem OkC.bool:OkC P Fl d (.type "bool") Bi:=by
 rintro A s Q X hp stk vs xs rm fs ok r ⟨v,us,hv,hu,hl,q⟩
 subst hv
 obtain⟨x,ys,rfl,rx,rfl⟩:=r
 obtain⟨a,xs,rfl,p,rz⟩:=bz ok rx hu
 have hz:=gO rz
 unfold lim at hl
 have he:(!xs.isEmpty)= !us.isEmpty:=by
  cases us with
  |nil=>have:xs= #[]:=oK (by simpa using hz)
        rw[this];rfl
  |cons u us=>
   have:xs.isEmpty=false:=by rw[qx];intro e0;rw[e0]at hz;simp at hz
   rw[this];rfl
 refine call_bool_1 (meets_bool_list a xs (by lia)) ⟨p.isList,?_⟩
 exact⟨rfl,by rw[he];exact gY ok q lW⟩
end Mine
namespace Mine
variable{P:dH}{Fl:iq}{d:Nat}{sc:Scope}
inductive ZS where
 |li (i l:Addr) (us:List V)
 |ra (i:Addr) (lo hi:Int)
noncomputable def ZS.a:ZS→Addr
 | .li i l us=>i
 | .ra i lo hi=>i
noncomputable def ZS.vs:ZS→List V
 | .li i l us=>us
 | .ra i lo hi=>dp lo hi
noncomputable def ZS.St(k:Nat)(h:Heap):ZS→Prop
 | .li i l us=>h.IsListIter i l k
 | .ra i lo hi=>IsRangeIter h i (lo+(k:Int)) (((hi - lo).toNat:Int) - (k:Int)) 1
noncomputable def ZS.R(nm:Nat→Str)(F:Addr→Prop)(h:Heap):ZS→Prop
 | .li i l us=>F l∧∃xs,h.PlainList l xs∧VRs nm F h us xs.toList
 | .ra i lo hi=>True
theorem ZS.rk{nm:Nat→Str}{F F':Addr→Prop}{h h':Heap}(ky:bW F F' h h'):∀{z:ZS},z.R nm F h→z.R nm F' h'
 | .li i l us,⟨f,xs,p,r⟩=>⟨(fY ky f p).1,xs,(fY ky f p).2,r.keep ky⟩
 | .ra i lo hi,_=>trivial
theorem ZS.fr{h h':Heap}{k:Nat}:∀{z:ZS},z.St k h→(∀o,h.get? z.a=some o→h'.get? z.a=some o)→z.St k h'
 | .li i l us,⟨o,e,q⟩,ky=>⟨o,ky o e,q⟩
 | .ra i lo hi,e,ky=>ky _ e
theorem ZS.live{h:Heap}{k:Nat}:∀{z:ZS},z.St k h→∃o,h.get? z.a=some o∧¬ow o∧o.cls≠ .type "zip"
 | .li i l us,⟨o,e,c,q⟩=>⟨o,e,nD_fields q,by rw[c];decide⟩
 | .ra i lo hi,e=>⟨_,e,nD_fields rfl,by show hP "range_iterator" ≠hP "zip";decide⟩
theorem pi{F:Addr→Prop}{h h':Heap}{i:Addr}(nf:¬F i)(sb:bP i h h'):bW F F h h':=λa o f g=>⟨f,(sb.2 a (λz=>nf (z▸f))).trans g⟩
theorem rW{prog:Program}{w:d5}{A:aC}{E:Value→af→Prop}{s:af}{it:Addr}{x left step:Int}{Q:Value→af→Prop}(hit:IsRangeIter s.heap it x left step)(hleft:0<left)
 (hQ:∀h',IsRangeIter h' it (x+step) (left - 1) step→bP it s.heap h'→Q (.int x s.toks) {s with heap:=h',toks:=s.toks+1}):
 wpAny (model prog w) A (bE (.ref it)) Q E s:=by
 have hT:s.TypeIs (.ref it) "range_iterator" :=⟨_,hit,rfl⟩
 unfold bE
 refine wpAny_bind (wpAny_callSpecial?_slot (name:=ah "__next__") hT F.slot_range_iterator_next
  (fX F.slot_range_iterator_next hT F.entry_range_iterator_next (F.args_range_iterator_next_1 _) (GN it x left step (by omega)) ⟨hit,?_⟩))
 exact wpAny_pure (hQ _ (cj _ (cj _ hit rfl) rfl) ((bS ..).trans (bS ..)))
theorem n5{prog:Program}{w:d5}{A:aC}{E:Value→af→Prop}{s:af}{it:Addr}{x left step:Int}{Q:Value→af→Prop}(hh:A.handled=none)(hit:IsRangeIter s.heap it x left step)(hleft:left≤0)
 (hE:∀h' e,vA it s.heap h'→(∃o,h'.get? it=some o)→(∃o,h'.get? e=some o∧o.cls= .type "StopIteration")→E (.ref e) {s with heap:=h'}):wpAny (model prog w) A (bE (.ref it)) Q E s:=by
 have hT:s.TypeIs (.ref it) "range_iterator" :=⟨_,hit,rfl⟩
 unfold bE
 refine wpAny_bind (wpAny_callSpecial?_slot (name:=ah "__next__") hT F.slot_range_iterator_next
  (jv F.slot_range_iterator_next hT F.entry_range_iterator_next ?_ (F.args_range_iterator_next_1 _)))
 show wpAny _ _ (field (.ref it) 0>>= _) _ _ s
 refine wpAny_bind (ci hit rfl (x:=rawInt x) rfl ?_)
 show wpAny _ _ (field (.ref it) 1>>= _) _ _ s
 refine wpAny_bind (ci hit rfl (x:=rawInt left) rfl ?_)
 show wpAny _ _ (field (.ref it) 2>>= _) _ _ s
 refine wpAny_bind (ci hit rfl (x:=rawInt step) rfl ?_)
 show wpAny _ _ (if left≤0 then _ else _) _ _ s
 rw[if_pos hleft]
 refine wpAny_bind (wpAny_rule ?_)
 refine wpAny_bind ?_
 show wpAny _ _ (newExc (.type "StopIteration") []>>= _) _ _ _
 refine wpAny_bind ?_
 simp only[newExc,newTuple]
 refine wpAny_bind (d6 ?_ (by size_fits))
 refine wpAny_bind (m:=firstArgMember _ _) (wpAny_of_eq (a:=bf) (by first|rfl|(simp only[firstArgMember];rfl)) ?_)
 refine d6 ?_ (by size_fits)
 dsimp only[raiseNew]
 refine wpAny_bind (vS ?_)
 first|rw[show A.in1.handled=none from hh]|rw[hh]
 refine wpAny_bind (wpAny_pure (zY ?_))
 exact hE _ _ (((FQ it s.heap).push _).push _) ⟨_,an _ (an _ hit)⟩ ⟨_,aw _ rfl,rfl⟩
theorem oG{prog:Program}{w:d5}{A:aC}{E:Value→af→Prop}{s:af}{it l:Addr}{i:Nat}{items}{Q:Value→af→Prop}(hh:A.handled=none)
 (hit:s.heap.IsListIter it l i)(hl:s.heap.IsList l items)(hx:items[i]?=none)
 (hE:∀h' e,vA it s.heap h'→(∃o,h'.get? it=some o)→(∃o,h'.get? e=some o∧o.cls= .type "StopIteration")→E (.ref e) {s with heap:=h'}):
 wpAny (model prog w) A (bE (.ref it)) Q E s:=by
 refine(id hit).elim λo r1_=>r1_.elim λho r2_=>r2_.elim λhc hd=>?_
 refine hl.elim λol r1_=>r1_.elim λhol r2_=>r2_.elim λz r4_=>r4_.elim λnl hdl=>?_
 unfold bE
 refine wpAny_bind (wpAny_callSpecial?_slot (name:=ah "__next__") hit.typeIs CF
  (jv CF hit.typeIs Bt ?_ (args_listiter_next _)))
 show wpAny _ _ (field (.ref it) 0>>= _) _ _ s
 refine wpAny_bind (ci ho hd (x:=.ref l) rfl ?_)
 show wpAny _ _ (if(dK l==bf)=true then _ else _) _ _ s
 rw[if_neg (show¬((dK l==bf)=true)from bL)]
 show wpAny _ _ (field (.ref it) 1>>= _) _ _ s
 refine wpAny_bind (ci ho hd (x:=.int i 0) rfl ?_)
 show wpAny _ _ (seqItems? (.ref l)>>= _) _ _ s
 refine wpAny_bind (gS hol hdl ?_)
 simp only[c7,hx]
 refine wpAny_bind (wpAny_rule (wpAny_bind (kB ho hd (by simp) ?_)))
 show wpAny _ _ (newExc (.type "StopIteration") []>>= _) _ _ _
 refine wpAny_bind ?_
 simp only[newExc,newTuple]
 refine wpAny_bind (d6 ?_ (by size_fits))
 refine wpAny_bind (m:=firstArgMember _ _) (wpAny_of_eq (a:=bf) (by first|rfl|(simp only[firstArgMember];rfl)) ?_)
 refine d6 ?_ (by size_fits)
 dsimp only[raiseNew]
 refine wpAny_bind (vS ?_)
 first|rw[show A.in1.handled=none from hh]|rw[hh]
 refine wpAny_bind (wpAny_pure (zY ?_))
 exact hE _ _ (((bS ..).extBut.push _).push _) ⟨_,an _ (an _ (cj _ ho (iY (eP hd _))))⟩ ⟨_,aw _ rfl,rfl⟩
theorem B0{A:aC}{E:Value→af→Prop}{s:af}{F:Addr→Prop}{z:ZS}{k:Nat}{v:V}{Q:Value→af→Prop}(hk:z.vs[k]?=some v)(st:z.St k s.heap)(r:z.R P.nm F s.heap)(nf:¬F z.a)
 (hQ:∀y h' tk,VR P.nm F h' v y→z.St (k+1) h'→bP z.a s.heap h'→Q y {s with heap:=h',toks:=tk}):wpAny P.M A (bE (.ref z.a)) Q E s:=by
 cases z with
 |li i l us=>
  obtain⟨f,xs,p,rx⟩:=r
  refine(rx.get hk).elim λy r1_=>r1_.elim λey ry=>?_
  refine wpAny_nextOf_list_item st p.isList (x:=y) (by rw[←cL];exact ey) λh' st' sb=>hQ y h' s.toks (ry.keep (pi nf sb)) st' sb
 |ra i lo hi=>
  have hk':k<(dp lo hi).length:=(bA.mp hk).1
  have hl:=g9 (lo:=lo) (hi:=hi)
  have st':IsRangeIter s.heap i (lo+(k:Int)) (((hi - lo).toNat:Int) - (k:Int)) 1:=st
  refine rW st' (by lia) λh' st' sb=>hQ _ h' _ ?_ ?_ sb
  ·have:v= .int (lo+k):=by
    have e:(dp lo hi)[k]?=some v:=hk
    rw[au hk',oh]at e;cases e;rfl
   rw[this];exact vInt
  ·show IsRangeIter h' i _ _ 1
   have e1:lo+((k+1:Nat):Int)=lo+(k:Int)+1:=by lia
   have e2:((hi - lo).toNat:Int) - ((k+1:Nat):Int)=((hi - lo).toNat:Int) - (k:Int) - 1:=by lia
   rw[e1,e2];exact st'
theorem Dz{A:aC}{E:Value→af→Prop}{s:af}{F:Addr→Prop}{z:ZS}{k:Nat}{Q:Value→af→Prop}(hh:A.handled=none)(hk:k=z.vs.length)(st:z.St k s.heap)(r:z.R P.nm F s.heap)
 (hE:∀h' e,vA z.a s.heap h'→(∃o,h'.get? z.a=some o)→(∃o,h'.get? e=some o∧o.cls= .type "StopIteration")→E (.ref e) {s with heap:=h'}):wpAny P.M A (bE (.ref z.a)) Q E s:=by
 subst hk
 cases z with
 |li i l us=>
  obtain⟨f,xs,p,rx⟩:=r
  have hl:=rx.length
  exact oG hh st p.isList (by rw[←cL];exact c8 (by show _≤us.length;lia)) hE
 |ra i lo hi=>
  have st':IsRangeIter s.heap i _ _ 1:=st
  refine n5 hh st' ?_ hE
  have:=g9 (lo:=lo) (hi:=hi)
  show((hi - lo).toNat:Int) - ((dp lo hi).length:Int)≤0
  lia
theorem DB{prog:Program}{w:d5}{A:aC}{E:Value→af→Prop}{s:af}{T:Addr}{xs:Array Value}{x:Value}{k:Nat}{Q:Unit→af→Prop}(hT:s.heap.get? T=some {cls:=.type "tuple",data:=.seq xs})(hs:xs.size≤8)
 (h:∀h',h'.get? T=some {cls:=.type "tuple",data:=.seq (xs.setIfInBounds k x)}→bP T s.heap h'→Q () {s with heap:=h'}):
 wpAny (model prog w) A (updateSeq T (·.setIfInBounds k x)) Q E s:=by
 have e1:xs.size≤sizeLine:=ac hs (by decide)
 refine wpAny_updateSeq hT rfl (h _ ?_ (bS ..)) e1 (by show(xs.setIfInBounds k x).size≤_;rw[Array.size_setIfInBounds];exact cu e1)
 rw[cj _ hT rfl]
 simp[dQ]
noncomputable abbrev kQ(h:Heap)(T:Addr)(xs:List Value):Prop:=h.get? T=some {cls:=.type "tuple",data:=.seq ⟨xs⟩}
theorem yt{β:Type}{A:aC}{E:Value→af→Prop}{F:Addr→Prop}{TO:Addr}{k:Nat}{f:Value×Nat→β→Sem (ForInStep β)}{b:β}{Q:β→af→Prop}
 (step:∀(y:ZS)(v:V)(n:Nat)(s:af)(xs:List Value)(R:af→Prop),¬F y.a→TO≠y.a→kQ s.heap TO xs→xs.length≤8→y.St k s.heap→y.R P.nm F s.heap→y.vs[k]?=some v→
  (∀x h' tk,VR P.nm F h' v x→y.St (k+1) h'→kQ h' TO (xs.set n x)→h'.objs.size=s.heap.objs.size→(∀c,c≠TO→c≠y.a→h'.get? c=s.heap.get? c)→R {s with heap:=h',toks:=tk})→
  wpAny P.M A (f (.ref y.a,n) b) (λr s'=>r= .yield b∧R s') E s)(nTO:¬F TO):
 ∀(zs:List ZS)(vs:List V)(pre os:List Value)(s:af),(TO::zs.map ZS.a).Nodup→(∀y∈zs,¬F y.a)→kQ s.heap TO (pre++os)→os.length=zs.length→pre.length+os.length≤8→(∀y∈zs,y.St k s.heap∧y.R P.nm F s.heap)→zs.map (λy=>y.vs[k]?)=vs.map some→
  (∀h' tk xs,VRs P.nm F h' vs xs→kQ h' TO (pre++xs)→(∀y∈zs,y.St (k+1) h')→h'.objs.size=s.heap.objs.size→(∀c,c∉TO::zs.map ZS.a→h'.get? c=s.heap.get? c)→Q b {s with heap:=h',toks:=tk})→
  wpAny P.M A (forIn ((zs.map λy=>dK y.a).zipIdx pre.length) b f) Q E s:=by
 intro zs
 induction zs with
 |nil=>
  intro vs pre os s _ _ t hl _ _ ev hQ
  cases os with
  |cons=>cases hl
  |nil=>
  cases vs with
  |cons=>cases ev
  |nil=>exact wpAny_pure (hQ s.heap s.toks [] (rfl) t (λz h=>nomatch h) rfl λz z=>rfl)
 |cons y zs ih=>
  intro vs pre os s nd nf t hl h9 st ev hQ
  cases os with
  |nil=>cases hl
  |cons o os=>
  cases vs with
  |nil=>cases ev
  |cons v vs=>
  refine(xc ev).elim λe1 e2=>?_
  rw[ar,aP,am,not_or,aP]at nd
  obtain⟨⟨nT,nTz⟩,ny,nd⟩:=nd
  have hy:=nf y ak
  refine(st y ak).elim λs1 r1=>?_
  rw[ar,zG,p6]
  refine wpAny_bind (wpAny_mono (step y v pre.length s _ (λs'=>wpAny P.M A (forIn ((zs.map λy=>dK y.a).zipIdx (pre.length+1)) b f) Q E s') hy nT t (by rw[aJ];exact h9) s1 r1 e1 λx h' tk rx s1' t' sz kk=>?_) (λr s' hq=>by obtain⟨rfl,q⟩:=hq;exact q) λz z q=>q)
  have e:(pre++o::os).set pre.length x=(pre++[x])++os:=by simp
  rw[e]at t'
  have nyz:∀w∈zs,w.a≠y.a:=λw hw e=>ny (e▸ay.mpr ⟨w,hw,rfl⟩)
  have nTw:∀w∈zs,w.a≠TO:=λw hw e=>nTz (e▸ay.mpr ⟨w,hw,rfl⟩)
  have ky:bW F F s.heap h':=λc oc fc g=>⟨fc,(kk c (λe=>nTO (e▸fc)) λe=>hy (e▸fc)).trans g⟩
  have le:(pre++[x]).length=pre.length+1:=aJ
  rw[←le]
  refine ih vs (pre++[x]) os {s with heap:=h',toks:=tk} (aP.mpr ⟨nTz,nd⟩) (λw hw=>nf w (aq _ hw)) t' (mG hl) (by rw[le];simp only[aD]at h9;lia)
   (λw hw=>⟨ZS.fr (st w (aq _ hw)).1 λo g=>(kk _ (nTw w hw) (nyz w hw)).trans g,ZS.rk ky (st w (aq _ hw)).2⟩) e2 λh2 tk2 xs rs t2 st2 sz2 kk2=>?_
  have k2:∀c,c∉TO::zs.map ZS.a→c≠y.a→h2.get? c=s.heap.get? c:=λc h1 h2=>(kk2 c h1).trans (kk c (λe=>h1 (e▸ak)) h2)
  have hyn:y.a∉TO::zs.map ZS.a:=λh=>(am.mp h).elim (λe=>nT e.symm) ny
  have ky2:bW F F h' h2:=λc oc fc g=>⟨fc,(kk2 c λh=>(am.mp h).elim (λe=>nTO (e▸fc)) λh=>(by obtain⟨w,hw,rfl⟩:=ay.mp h;exact nf w (aq _ hw) fc)).trans g⟩
  refine hQ h2 tk2 (x::xs) (by simp only[VRse];exact⟨_,_,rfl,rx.keep ky2,rs⟩) (by rw[b7]at t2;exact t2) (λw hw=>?_) (sz2.trans sz) λc hc=>?_
  ·rcases am.mp hw with rfl|hw
   ·exact ZS.fr s1' λo g=>(kk2 _ hyn).trans g
   ·exact st2 w hw
  ·simp only[ar,am,not_or]at hc
   exact k2 c (λh=>(am.mp h).elim hc.1 hc.2.2) hc.2.1
theorem vV{A:aC}{E:Value→af→Prop}{s:af}{F:Addr→Prop}{z TI TO:Addr}{zs:List ZS}{k:Nat}{vs:List V}{os:List Value}{Q:Value→af→Prop}(nd:(z::TO::zs.map ZS.a).Nodup)(nf:∀c∈z::TO::zs.map ZS.a,¬F c)
 (ne:zs≠ [])(hz:kn s.heap z TI TO .none)(hTI:kQ s.heap TI (zs.map λy=>.ref y.a))(hTO:kQ s.heap TO os)(hos:os.length=zs.length)(h9:os.length≤8)
 (st:∀y∈zs,y.St k s.heap∧y.R P.nm F s.heap)(ev:zs.map (λy=>y.vs[k]?)=vs.map some)
 (hQ:∀h' tk xs (T:Nat),VRs P.nm F h' vs xs→kn h' z TI TO (rawInt T)→kQ h' TO xs→(∀y∈zs,y.St (k+1) h')→kQ h' T xs→s.heap.get? T=ae→
  (∀c o,c∉z::TO::zs.map ZS.a→s.heap.get? c=some o→h'.get? c=some o)→Q (.ref T) {s with heap:=h',toks:=tk}):
 wpAny P.M A (Builtin.«zip.__next__» ⟨[.ref z],[]⟩) (λfin s'=>∃v,fin= .done (.ret v)∧Q v s') E s:=by
 rw[aP,am,not_or]at nd
 obtain⟨⟨nzT,nzz⟩,nd⟩:=nd
 have fz:=nf z ak;have fTO:=nf TO (aq _ ak)
 have fy:∀y∈zs,¬F y.a:=λy hy=>nf _ (aq _ (aq _ (ay.mpr ⟨y,hy,rfl⟩)))
 have nzy:∀y∈zs,y.a≠z:=λy hy e=>nzz (e▸ay.mpr ⟨y,hy,rfl⟩)
 have hne:((⟨zs.map λy=>dK y.a⟩:Array Value)).isEmpty=false:=by
  cases zs with
  |nil=>exact absurd rfl ne
  |cons=>rfl
 show wpAny _ _ (field (.ref z) 2>>= _) _ _ _
 refine wpAny_bind (ci hz rfl (x:=.bool false) rfl ?_)
 show wpAny _ _ (field (.ref z) 3>>= _) _ _ _
 refine wpAny_bind (ci hz rfl (x:=.ref TI) rfl ?_)
 refine wpAny_bind (gS hTI rfl ?_)
 simp only[hne,cC,if_false]
 show wpAny _ _ (dL (.ref z)>>= _) _ _ _
 refine wpAny_bind ?_
 unfold dL
 refine wpAny_bind (ci hz rfl (x:=.none) rfl (wpAny_pure ?_))
 simp only[if_true]
 refine wpAny_bind (wpAny_rule ?_)
 refine wpAny_bind (ci hz rfl (x:=.ref TO) rfl ?_)
 refine wpAny_bind (wpAny_setField_rec hz (by simp) λh₁ hz₁ hs₁=>?_)
 replace hz₁:kn h₁ z TI TO .ellipsis:=hz₁
 have k₁:=pi fz hs₁
 refine wpAny_bind (yt (P:=P) (F:=F) (TO:=TO) (k:=k) (λy v n s xs R ny nT t l9 s1 r1 e1 hR=>?_) fTO zs vs [] os {s with heap:=h₁} nd fy ((hs₁.2 _ (aS nzT)).trans hTO) hos (by simpa using h9)
  (λy hy=>⟨ZS.fr (st y hy).1 λo g=>(hs₁.2 _ (nzy y hy)).trans g,ZS.rk k₁ (st y hy).2⟩) ev λh₅ tk xs rs t₅ st5 sz kk=>?_)
 ·refine wpAny_bind (F6 ?_)
  show wpAny _ _ (bE (.ref y.a)>>= _) _ _ _
  refine wpAny_bind (B0 e1 s1 r1 ny λx h₂ tk₂ rx s2 hs₂=>wpAny_pure ?_)
  have t₂:kQ h₂ TO xs:=(hs₂.2 _ nT).trans t
  refine wpAny_bind (gS t₂ rfl ?_)
  refine wpAny_bind (DB t₂ (l9) λh₃ t₃ hs₃=>?_)
  refine wpAny_bind (wpAny_letGo (wpAny_pure ⟨rfl,hR x h₃ tk₂ (rx.keep (pi fTO hs₃)) (ZS.fr s2 λo g=>(hs₃.2 _ (aS nT)).trans g) ?_ (hs₃.1.trans hs₂.1) λc c1 c2=>(hs₃.2 _ c1).trans (hs₂.2 _ c2)⟩))
  rw[List.setIfInBounds_toArray]at t₃
  exact t₃
 have h₅s:h₅.objs.size=s.heap.objs.size:=sz.trans hs₁.1
 have zk:kn h₅ z TI TO .ellipsis:=(kk z λh=>(am.mp h).elim nzT nzz).trans hz₁
 have lx:xs.length≤8:=by
  have h1:=rs.length
  have h2:=congrArg pI ev
  rw[aj,aj]at h2
  lia
 refine wpAny_bind (gS t₅ rfl ?_)
 refine wpAny_bind (Fe ?_ (ac lx (by decide)))
 have lt:∀{c o},h₅.get? c=some o→c≠h₅.objs.size:=λg=>cR (bJ g)
 show wpAny _ _ (jQ (.ref z) (.ref h₅.objs.size)>>= _) _ _ _
 refine wpAny_bind ?_
 unfold jQ
 have hz₆:kn (h₅.push {cls:=.type "tuple",data:=.seq ⟨xs⟩}) z TI TO .ellipsis:=an _ zk
 refine wpAny_bind (wpAny_setField_rec hz₆ (by simp) λh₇ hz₇ hs₇=>?_)
 replace hz₇:kn h₇ z TI TO (rawInt h₅.objs.size):=hz₇
 refine wpAny_setField_rec hz₇ (by simp) λh₈ hz₈ hs₈=>?_
 replace hz₈:kn h₈ z TI TO (rawInt h₅.objs.size):=hz₈
 have up:∀c o,c≠z→h₅.get? c=some o→h₈.get? c=some o:=λc o c1 e=>(hs₈.2 _ c1).trans ((hs₇.2 _ c1).trans (an _ e))
 have hT₈:kQ h₈ h₅.objs.size xs:=(hs₈.2 _ (aS (lt zk))).trans ((hs₇.2 _ (aS (lt zk))).trans (aw _ rfl))
 refine wpAny_pure ⟨_,rfl,hQ h₈ _ xs h₅.objs.size (rs.keep λc o f g=>⟨f,up c o (λq=>fz (q▸f)) g⟩) hz₈ (up _ _ (aS nzT) t₅) (λy hy=>ZS.fr (st5 y hy) λo g=>up _ o (nzy y hy) g) hT₈ (h₅s▸eV _) λc o hc g=>?_⟩
 rw[am,not_or]at hc
 exact up c o hc.1 ((kk c hc.2).trans ((hs₁.2 _ hc.1).trans g))
theorem zZ{A:aC}{s:af}{F:Addr→Prop}{z TI TO:Addr}{z1:ZS}{rest:List Value}{ts:Array Value}{k:Nat}{Q:Fin→af→Prop}{E:Value→af→Prop}(hh:A.handled=none)(nz1:z≠z1.a)
 (nfz:¬F z)(hz:kn s.heap z TI TO .none)(hTI:s.heap.get? TI=some {cls:=.type "tuple",data:=.seq ts})(hts:ts.toList= .ref z1.a::rest)
 (s1:z1.St k s.heap)(r1:z1.R P.nm F s.heap)(hk:k=z1.vs.length)
 (hE:∀h' e,(∀c o,c≠z→c≠z1.a→s.heap.get? c=some o→h'.get? c=some o)→(∃o,h'.get? z=some o)→(∃o,h'.get? z1.a=some o)→(∃o,h'.get? e=some o∧o.cls= .type "StopIteration")→E (.ref e) {s with heap:=h'}):
 wpAny P.M A (Builtin.«zip.__next__» ⟨[.ref z],[]⟩) Q E s:=by
 have hne:ts.isEmpty=false:=by
  cases hq:ts.isEmpty with
  |false=>rfl
  |true=>rw[Array.isEmpty_iff]at hq;rw[hq]at hts;cases hts
 show wpAny _ _ (field (.ref z) 2>>= _) _ _ _
 refine wpAny_bind (ci hz rfl (x:=.bool false) rfl ?_)
 show wpAny _ _ (field (.ref z) 3>>= _) _ _ _
 refine wpAny_bind (ci hz rfl (x:=.ref TI) rfl ?_)
 refine wpAny_bind (gS hTI rfl ?_)
 simp only[hne,cC,if_false]
 show wpAny _ _ (dL (.ref z)>>= _) _ _ _
 refine wpAny_bind ?_
 unfold dL
 refine wpAny_bind (ci hz rfl (x:=.none) rfl (wpAny_pure ?_))
 simp only[if_true]
 refine wpAny_bind (wpAny_rule ?_)
 refine wpAny_bind (ci hz rfl (x:=.ref TO) rfl ?_)
 refine wpAny_bind (wpAny_setField_rec hz (by simp) λh₁ hz₁ hs₁=>?_)
 replace hz₁:kn h₁ z TI TO .ellipsis:=hz₁
 refine wpAny_bind ?_
 simp only[hts,zG,p6]
 refine wpAny_bind (wpAny_bind (F6 ?_))
 show wpAny _ _ (bE (.ref z1.a)>>= _) _ _ _
 refine wpAny_bind (Dz hh hk (ZS.fr s1 λo g=>(hs₁.2 _ (aS nz1)).trans g) (ZS.rk (pi nfz hs₁) r1) λh₂ e hs₂ al he=>?_)
 refine al.elim λoi hoi=>?_
 obtain⟨oe,hoe,hce⟩:=he
 have hz₂:kn h₂ z TI TO .ellipsis:=hs₂ _ _ nz1 hz₁
 have hez:e≠z:=λx=>by subst x;rw[hz₂]at hoe;cases hoe;simp at hce
 refine wpAny_setField_rec hz₂ (by simp) λh₃ hz₃ hs₃=>hE h₃ e (λc o c1 c3 x=>(hs₃.2 _ c1).trans (hs₂ _ _ c3 ((hs₁.2 _ c1).trans x))) ⟨_,hz₃⟩ ⟨oi,(hs₃.2 _ (aS nz1)).trans hoi⟩ ⟨oe,(hs₃.2 _ hez).trans hoe,hce⟩
end Mine
namespace Mine
variable{P:dH}{Fl:iq}{d:Nat}{sc:Scope}
noncomputable def zip2(us vs:List V):List V:=CV (λa b=>.tup [a,b]) us vs
noncomputable def zip3(xs us vs:List V):List V:=CV (λa (b:V×V)=>.tup [a,b.1,b.2]) xs (us.zip vs)
theorem sV{us vs:List V}(h:us.length≤vs.length):us.length=(zip2 us vs).length:=(wS.trans (hU h)).symm
theorem sU{xs us vs:List V}(h:xs.length≤us.length)(h2:xs.length≤vs.length):xs.length=(zip3 xs us vs).length:=by
 rw[zip3,wS,List.length_zip,hU (Nat.le_min.mpr ⟨h,h2⟩)]
theorem z6{us vs:List V}{k:Nat}(h:us.length≤vs.length)(hk:k<(zip2 us vs).length):∃ws,(zip2 us vs)[k]= .tup ws∧[us[k]?,vs[k]?]=ws.map some:=by
 have h1:=sV h▸hk
 exact⟨[us[k],vs[k]'(aE h1 h)],vD,by rw[au h1,au (aE h1 h)];rfl⟩
theorem z5{xs us vs:List V}{k:Nat}(h:xs.length≤us.length)(h2:xs.length≤vs.length)(hk:k<(zip3 xs us vs).length):∃ws,(zip3 xs us vs)[k]= .tup ws∧[xs[k]?,us[k]?,vs[k]?]=ws.map some:=by
 have h1:=sU h h2▸hk
 refine⟨[xs[k],us[k]'(aE h1 h),vs[k]'(aE h1 h2)],vD.trans ?_,by rw[au h1,au (aE h1 h),au (aE h1 h2)];rfl⟩
 rw[List.getElem_zip]
noncomputable def qd:O→Option (List V)
 | .itl us=>some us
 | .itr lo hi=>some (dp lo hi)
 |_=>ae
inductive sT(hp hp':Hp)(z:Addr)(ts:List V):Prop
 |mk (TI TO:Addr) (p0:Addr×O) (ss:List (Addr×O)) (u0:List V) (nd:(z::TO::(p0::ss).map (·.1)).Nodup) (hn:∀a∈z::TO::(p0::ss).map (·.1),hp a=ae) (off:∀a,a∉z::TO::(p0::ss).map (·.1)→hp' a=hp a)
  (hz:hp' z=some (.zip TI TO ((p0::ss).map (·.1)))) (hO:hp' TO=some (.own (p0::ss).length)) (h8:(p0::ss).length≤8) (hs:∀p∈p0::ss,hp' p.1=some p.2∧∃us,qd p.2=some us) (h0:qd p0.2=some u0) (hl:u0.length=ts.length)
  (ht:∀k (hk:k<ts.length),∃vs,ts[k]= .tup vs∧(p0::ss).map (λp=>(qd p.2).bind (·[k]?))=vs.map some)
noncomputable def xB(t:Expr):Prop:=∃elts k pos,t= .Tuple elts k pos
theorem pL{A:aC}{s:af}{z TI TO:Addr}{f0:Value}{Q:Option Value→af→Prop}{E:Value→af→Prop}(hz:kn s.heap z TI TO f0)
 (h:wpAny P.M A.in1 (Builtin.«zip.__next__» ⟨[.ref z],[]⟩) (λfin s'=>∃v,fin= .done (.ret v)∧Q (some v) s') (λe s'=>(∃o a,e= .ref a∧s'.heap.get? a=some o∧o.cls= .type "StopIteration")∧Q ae s') s):
 wpAny P.M A (pyNext (.ref z)) Q E s:=by
 have hT:s.TypeIs (.ref z) "zip" :=⟨_,hz,rfl⟩
 unfold pyNext
 refine wpAny_bind (F8 (wpAny_callSpecial?_slot (name:=ah "__next__") hT F.slot_zip_next
  (jv F.slot_zip_next hT F.entry_zip_next (wpAny_mono h (λfin s' hq=>?_) λe s' hq=>?_) (F.args_zip_next_1 _))))
 ·obtain⟨v,rfl,q⟩:=hq
  exact⟨v,rfl,wpAny_pure q⟩
 ·obtain⟨⟨o,a,rfl,ho,hc⟩,q⟩:=hq
  exact wpAny_bind (wpAny_isInstance (T:= "StopIteration") (b:=true) ⟨o,ho,hc⟩ isSubtype_stop (wpAny_pure q))
theorem nD_tup{xs:Array Value}{n:Nat}:¬ow {cls:=.type "tuple",data:=.seq xs n}:=by rintro⟨es,m,e⟩;cases e
theorem srcs_real{stk:Addr→Prop}{hp:Hp}{s:af}(ok:HeapOk P stk hp s):∀ss:List (Addr×O),(∀p∈ss,hp p.1=some p.2∧∃us,qd p.2=some us)→
 ∃zs:List ZS,zs.map ZS.a=ss.map (·.1)∧zs.map (λy=>some y.vs)=ss.map (λp=>qd p.2)∧(∀y∈zs,y.St 0 s.heap)∧∀y∈zs,y.R P.nm (Fz stk hp) s.heap:=by
 intro ss
 induction ss with
 |nil=>exact λz=>⟨[],rfl,rfl,λz h=>(nomatch h),λz h=>nomatch h⟩
 |cons p ss ih=>
  intro h
  refine(ih λq hq=>h q (aq _ hq)).elim λzs r1_=>r1_.elim λe1 r2_=>r2_.elim λe2 r3_=>r3_.elim λe3 e4=>?_
  obtain⟨h1,us,h2⟩:=h p ak
  have r:=ok.obj _ _ h1
  obtain⟨a,o⟩:=p
  have fin:∀y:ZS,y.a=a→y.vs=us→y.St 0 s.heap→y.R P.nm (Fz stk hp) s.heap→∃zs:List ZS,zs.map ZS.a=((a,o)::ss).map (·.1)∧zs.map (λy=>some y.vs)=((a,o)::ss).map (λp=>qd p.2)∧(∀y∈zs,y.St 0 s.heap)∧∀y∈zs,y.R P.nm (Fz stk hp) s.heap:=λy q1 q2 q3 q4=>
   ⟨y::zs,by rw[ar,ar,e1,q1],by rw[ar,ar,e2,q2,h2],λw hw=>(am.mp hw).elim (λe=>e▸q3) (e3 w),λw hw=>(am.mp hw).elim (λe=>e▸q4) (e4 w)⟩
  cases o with
  |itl vs=>
   cases h2
   refine r.elim λl r1_=>r1_.elim λxs r2_=>r2_.elim λil r3_=>r3_.elim λfl r4_=>r4_.elim λpl rl=>?_
   exact fin (.li a l us) rfl rfl il ⟨fl,xs,pl,rl⟩
  |itr lo hi=>
   cases h2
   refine fin (.ra a lo hi) rfl rfl ?_ trivial
   show IsRangeIter _ _ (lo+0) (_ - 0) 1
   rw[Int.add_zero,ut]
   exact r
  |_=>cases h2
theorem its_zip{hp0 hp:Hp}{z:Addr}{ts:List V}(Z:sT hp0 hp z ts):Its P (.ref z) ts hp hp0 xB (λu=>True):=by
 intro A s stk x Q E hh ok r q
 simp only[VRe]at r
 subst r
 obtain⟨TI,TO,p0,ss,u0,nd,hn,off,ez,eO,h8,hs,h0,hl,ht⟩:=Z
 refine(ok.obj _ _ ez).elim λhz r1_=>r1_.elim λfT hTI=>?_
 obtain⟨xO,hTO,sO⟩:=ok.obj _ _ eO
 obtain⟨os⟩:=xO
 obtain⟨zs,e1,e2,s0,r0⟩:=srcs_real ok _ hs
 have alive:∀a∈z::TO::(p0::ss).map (·.1),hp a≠ae:=λa h=>by
  rcases am.mp h with rfl|h
  ·rw[ez];exact nofun
  rcases am.mp h with rfl|h
  ·rw[eO];exact nofun
  ·obtain⟨p,hp,rfl⟩:=ay.mp h
   rw[(hs p hp).1];exact nofun
 rw[←e1]at nd hn off hTI alive
 have len:os.length=zs.length:=by
  have:=congrArg pI e1
  rw[aj,aj]at this
  rw[this];exact sO
 have l8:os.length≤8:=ac (ax sO) h8
 clear ez eO sO
 rw[bF]at hTI
 cases zs with
 |nil=>cases e1
 |cons y zs=>
 have hy:y.vs.length=ts.length:=by
  have:some y.vs=some u0:=(xc e2).1.trans h0
  rw[m9 this];exact hl
 have mz:z∈z::TO::(y::zs).map ZS.a:=ak
 have mT:TO∈z::TO::(y::zs).map ZS.a:=aq _ ak
 have mw:∀w∈y::zs,w.a∈z::TO::(y::zs).map ZS.a:=λw hw=>aq _ (aq _ (ay.mpr ⟨w,hw,rfl⟩))
 have n1:=(aP.mp nd).1
 have nTz:TO≠z:=λe=>n1 (e▸ak)
 have nw:∀w∈y::zs,w.a≠z:=λw hw e=>n1 (e▸aq _ (ay.mpr ⟨w,hw,rfl⟩))
 refine DU hz (q z (λa=>a∈z::TO::(y::zs).map ZS.a) (λa=>a∈z::TO::(y::zs).map ZS.a) (λF h=>F TI∧kQ h TI ((y::zs).map λw:ZS=>dK w.a)∧∀w∈y::zs,w.R P.nm F h)
  (λk h=>kn h z TI TO .none∧(∃os,kQ h TO os∧os.length=(y::zs).length)∧∀w∈y::zs,w.St k h) s.heap ⟨λa h=>.inr ⟨alive a h,h⟩,hn,λa h=>(off a h).symm⟩ (λu u e=>e) ?_ ⟨hz,⟨os,hTO,len⟩,s0⟩ ⟨fT,hTI,r0⟩)
 clear hn off alive fT hTI hz s0 r0 hTO ok q hh h0 hl
 rw[len]at l8
 clear len os
 refine⟨λA t k s hp stk Q E hk hG hh st ok r u hJ q=>?_,λA s hp stk Q E hh st ok r u hJ q=>?_,λk h h' st ky=>?_,λA k s Q E st q=>DU st.1 q,λk h st b hb=>?_,λF F' h h' ky r=>?_,mz⟩
 ·obtain⟨elts,ke,pos,rfl⟩:=hG
  refine st.elim λhz r1_=>r1_.elim λe2_ st=>e2_.elim λos r3_=>r3_.elim λhTO lo=>?_
  refine r.elim λfT r1_=>r1_.elim λhTI rr=>?_
  refine(ht k hk).elim λvs r1_=>r1_.elim λev e=>?_
  have e':=congrArg (gp λo:Option (List V)=>o.bind (·[k]?)) e2
  rw[bF,bF]at e'
  have lv:(y::zs).length=vs.length:=by
   have:=congrArg pI (e'.trans e)
   rwa[aj,aj]at this
  refine pL hz (wpAny_mono (vV (F:=Fz stk hp) nd (λc hc f=>f.2 (hJ c hc)) nofun hz hTI hTO lo (lo▸l8) (λw hw=>⟨st w hw,rr w hw⟩) (e'.trans e)
   (Q:=λy s1=>wpAny P.M A (letOwnedTupleGo (.Tuple elts ke pos) (.ref z) y) (λu s2=>Q y s2) E s1) λh' tk xs T rs hz' hTO' st' hT' hf kk=>?_) (λfin s1 hq=>by obtain⟨v,e1,q1⟩:=hq;exact⟨v,e1,_,rfl,q1⟩) λe s1 z=>z)
  refine wpAny_letOwnedTupleGo_zip hz' λh2 hz2 sb=>q _ h2 tk ?_ ⟨hz2,⟨xs,(sb.2 _ nTz).trans hTO',rs.length.trans lv.symm⟩,λw hw=>ZS.fr (st' w hw) λo g=>(sb.2 _ (nw w hw)).trans g⟩ λc o hc g=>(sb.2 _ λe=>hc (by rw[e];exact mz)).trans (kk c o hc g)
  rw[ev]
  simp only[VRe]
  exact⟨T,⟨xs⟩,rfl,fz_of_new ok hf,⟨_,(sb.2 _ λe=>by rw[e]at hf;exact nomatch hf.symm.trans hz).trans hT'⟩,rs.keep (pi (λf=>f.2 (hJ z mz)) sb)⟩
 ·obtain⟨hz,⟨os,hTO,lo⟩,st⟩:=st
  refine r.elim λfT r1_=>r1_.elim λhTI rr=>?_
  refine pL hz (zZ (F:=Fz stk hp) (z1:=y) hh (aS (nw y ak)) (λf=>f.2 (hJ z mz)) hz hTI rfl (st y ak) (rr y ak) hy.symm λh' e kk hz' hi' he=>⟨?_,rfl,q h' s.toks (λc o hc g=>kk c o (λe=>hc (by rw[e];exact mz)) (λe=>hc (by rw[e];exact mw y ak)) g) λc hc=>?_⟩)
  ·refine he.elim λo r1_=>r1_.elim λg hc=>?_;exact⟨o,e,rfl,g,hc⟩
  ·by_cases c1:c=z
   ·subst c1;exact hz'
   by_cases c2:c=y.a
   ·subst c2;exact hi'
   rcases am.mp hc with rfl|hc
   ·exact absurd rfl c1
   rcases am.mp hc with rfl|hc
   ·exact⟨_,kk _ _ c1 c2 hTO⟩
   ·obtain⟨w,hw,rfl⟩:=ay.mp hc
    refine(ZS.live (st w hw)).elim λo r1_=>r1_.elim λg u=>?_
    exact⟨o,kk _ _ c1 c2 g⟩
 ·refine st.elim λhz r1_=>r1_.elim λe2_ st=>e2_.elim λos r3_=>r3_.elim λhTO lo=>?_
  exact⟨ky z mz _ hz,⟨os,ky TO mT _ hTO,lo⟩,λw hw=>ZS.fr (st w hw) (ky w.a (mw w hw))⟩
 ·obtain⟨hz,⟨os,hTO,lo⟩,st⟩:=st
  rcases am.mp hb with rfl|hb
  ·exact⟨_,hz,nD_fields rfl⟩
  rcases am.mp hb with rfl|hb
  ·exact⟨_,hTO,nD_tup⟩
  ·obtain⟨w,hw,rfl⟩:=ay.mp hb
   refine(ZS.live (st w hw)).elim λo r1_=>r1_.elim λe r2_=>r2_.elim λn u=>?_
   exact⟨o,e,n⟩
 ·refine r.elim λfT r1_=>r1_.elim λhTI rr=>?_
  exact⟨(ky _ _ fT hTI).1,(ky _ _ fT hTI).2,λw hw=>ZS.rk ky (rr w hw)⟩
end Mine
namespace Mine
open PySem PySem.W PySem.Calls PyProof.Rows
theorem tcZ3(a b c:Value):checkTypeCall "zip" ⟨[a,b,c],[]⟩=pure ():=by kernel_rfl
theorem ncZ3(a b c:Value):checkBuiltinCall "zip.__new__" ⟨[.type "zip",a,b,c],[]⟩=pure ():=by kernel_rfl
theorem aoZ4(a b c e:Value):argsOk "object.__init__" ⟨[a,b,c,e],[]⟩:=by
 unfold argsOk;rw[signature?_of (id:= "object.__init__") (n:=['_','_','t','i','n','i','_','_']) (o:=['t','c','e','j','b','o']) (by kernel_rfl) PySem.F.owner_object];kernel_rfl
noncomputable abbrev iL(h:Heap)(a n:Int):Heap:=h.push {cls:=.type "range_iterator",data:=.fields #[rawInt a,rawInt n,rawInt 1]}
noncomputable abbrev hY(h:Heap)(l:Addr):Heap:=h.push {cls:=.type "list_iterator",data:=.fields #[.ref l,.int 0 0]}
noncomputable abbrev sI(h:Heap)(a b c:Value):Heap:=h.push {cls:=.type "tuple",data:=.seq #[a,b,c]}
noncomputable abbrev BI(h:Heap)(TI TO:Addr):Heap:=h.push {cls:=.type "zip",data:=.fields #[.none,.bool false,.bool false,.ref TI,.ref TO]}
noncomputable abbrev BJ(h:Heap)(a n:Int)(l1 l2:Addr):Heap:=sI (sI (hY (hY (iL h a n) l1) l2) (.ref h.objs.size) (.ref (iL h a n).objs.size) (.ref (hY (iL h a n) l1).objs.size)) .none .none .none
set_option maxHeartbeats 8000000 in
theorem pT(r l1 l2:Addr)(a b:Int)(n:Int)(t u v:Tok)(hs:bQ a b 1=true)(hn:b9 a b 1=n)(xs ys:Array Value):
 Meets (Builtin.«zip.__new__» ⟨[.type "zip",.ref r,.ref l1,.ref l2],[]⟩) (λz R s=>CP s.heap r a b 1 t u v∧s.heap.IsList l1 xs∧s.heap.IsList l2 ys∧
  R (.ok (.ret (.ref (BJ s.heap a n l1 l2).objs.size))) {s with heap:=BI (BJ s.heap a n l1 l2) (hY (hY (iL s.heap a n) l1) l2).objs.size (sI (hY (hY (iL s.heap a n) l1) l2) (.ref s.heap.objs.size) (.ref (iL s.heap a n).objs.size) (.ref (hY (iL s.heap a n) l1).objs.size)).objs.size}):=
 .of_wp λprog w A R s h=>by
  obtain⟨hp,g,d,tk,os⟩:=s;obtain⟨hr,hl1,hl2,h⟩:=h
  have hsub:=sub_zip
  have hR:∀(A:aC)(Q:Value→af→Prop)(E:Value→af→Prop),Q (.ref hp.objs.size) ⟨iL hp a n,g,d,tk,os⟩→wpAny (model prog w) A (pyIter (.ref r)) Q E ⟨hp,g,d,tk,os⟩:=λA Q E q=>CE hr hs (by rw[hn];exact q)
  clear hs hn
  have hL1:D0 (CH ⟨iL hp a n,g,d,tk,os⟩) l1 xs:=mE hl1 _
  have hL2:D0 (CH ⟨hY (iL hp a n) l1,g,d,tk,os⟩) l2 ys:=mE (mE hl2 _) _
  wp_walk using hR,kW hL1,kW hL2
  exact⟨_,rfl,h⟩
end Mine
namespace Mine
variable{P:dH}{Fl:iq}{d:Nat}{sc:Scope}
theorem uK{prog:Program}{w:d5}{A:aC}{E:Value→af→Prop}{s:af}{r l1 l2:Addr}{a b:Int}{t u v:Tok}{xs ys:Array Value}{Q:Value→af→Prop}(hr:CP s.heap r a b 1 t u v)(hs:bQ a b 1=true)(hl1:s.heap.IsList l1 xs)(hl2:s.heap.IsList l2 ys)
 (h:∀h',kn h' (s.heap.objs.size+5) (s.heap.objs.size+3) (s.heap.objs.size+4) .none→kQ h' (s.heap.objs.size+3) [.ref s.heap.objs.size,.ref (s.heap.objs.size+1),.ref (s.heap.objs.size+2)]→
  kQ h' (s.heap.objs.size+4) [.none,.none,.none]→IsRangeIter h' s.heap.objs.size a (b9 a b 1) 1→h'.IsListIter (s.heap.objs.size+1) l1 0→h'.IsListIter (s.heap.objs.size+2) l2 0→
  (∀c o,s.heap.get? c=some o→h'.get? c=some o)→Q (.ref (s.heap.objs.size+5)) {s with heap:=h'}):
 wpAny (model prog w) A (call (.type "zip") [.ref r,.ref l1,.ref l2]) Q E s:=by
 refine callType_new F.called_zip (by decide) (tcZ3 _ _ _) (ncZ3 _ _ _) (λobj=>aoZ4 obj _ _ _) F.entry_zip_new
  (pT r l1 l2 a b _ t u v hs rfl xs ys) ⟨hr,hl1,hl2,?_⟩
 generalize b9 a b 1=n at h
 have z1:(iL s.heap a n).objs.size=s.heap.objs.size+1:=c9 ..
 have z2:(hY (iL s.heap a n) l1).objs.size=s.heap.objs.size+2:=by rw[c9,z1]
 have z3:(hY (hY (iL s.heap a n) l1) l2).objs.size=s.heap.objs.size+3:=by rw[c9,z2]
 generalize eA:sI (hY (hY (iL s.heap a n) l1) l2) (.ref s.heap.objs.size) (.ref (iL s.heap a n).objs.size) (.ref (hY (iL s.heap a n) l1).objs.size)=hA
 have z4:hA.objs.size=s.heap.objs.size+4:=by rw[←eA,c9,z3]
 have kA:∀c o,(hY (hY (iL s.heap a n) l1) l2).get? c=some o→hA.get? c=some o:=λc o e=>by rw[←eA];exact an _ e
 have gA:kQ hA (s.heap.objs.size+3) [.ref s.heap.objs.size,.ref (s.heap.objs.size+1),.ref (s.heap.objs.size+2)]:=by
  have:=aw (hY (hY (iL s.heap a n) l1) l2) (o:={cls:=.type "tuple",data:=.seq #[.ref s.heap.objs.size,.ref (iL s.heap a n).objs.size,.ref (hY (iL s.heap a n) l1).objs.size]}) rfl
  rw[←eA]
  rw[z3,z1,z2]at this
  rw[z1,z2]
  exact this
 have gB:kQ (sI hA .none .none .none) (s.heap.objs.size+4) [.none,.none,.none]:=by rw[←z4];exact aw _ rfl
 have zB:(sI hA .none .none .none).objs.size=s.heap.objs.size+5:=by rw[c9,z4]
 have up:∀c o,(hY (hY (iL s.heap a n) l1) l2).get? c=some o→(BI (sI hA .none .none .none) (hY (hY (iL s.heap a n) l1) l2).objs.size hA.objs.size).get? c=some o:=λc o e=>an _ (an _ (kA c o e))
 have gZ:kn (BI (sI hA .none .none .none) (hY (hY (iL s.heap a n) l1) l2).objs.size hA.objs.size) (s.heap.objs.size+5) (hY (hY (iL s.heap a n) l1) l2).objs.size hA.objs.size .none:=by rw[←zB];exact aw _ rfl
 show _∧_
 unfold BJ
 rw[eA,zB]
 refine⟨⟨_,gZ,rfl⟩,h _ ?_ (an _ (an _ gA)) (an _ gB) (up _ _ (an _ (an _ (aw _ rfl)))) ⟨_,up _ _ (an _ (by have:=aw (iL s.heap a n) (o:={cls:=.type "list_iterator",data:=.fields #[.ref l1,.int 0 0]}) rfl;rw[z1]at this;exact this)),rfl,rfl⟩ ⟨_,up _ _ (by have:=aw (hY (iL s.heap a n) l1) (o:={cls:=.type "list_iterator",data:=.fields #[.ref l2,.int 0 0]}) rfl;rw[z2]at this;exact this),rfl,rfl⟩ λc o x=>up c o (an _ (an _ (an _ x)))⟩
 have e:∀{x y x' y':Nat}{h:Heap},x=x'→y=y'→kn h (s.heap.objs.size+5) x y .none→kn h (s.heap.objs.size+5) x' y' .none:=λa b c=>a▸b▸c
 exact e z3 z4 gZ
theorem Ao{own stk:Addr→Prop}{hp hp':Hp}{s:af}(ok:HeapOk P stk hp s){h':Heap}{tk:Nat}(k:∀b o,s.heap.get? b=some o→h'.get? b=some o)(hn:∀a,hp' a=hp a∨(s.heap.get? a=ae∧∃o,hp' a=some o∧OR P.nm P.prog P.w (Fz stk hp') h' a o)):
 HeapOk P stk hp' {s with heap:=h',toks:=tk}∧Ext own stk hp s hp' {s with heap:=h',toks:=tk}∧bW (Fz stk hp) (Fz stk hp') s.heap h':=by
 have ky:bW (Fz stk hp) (Fz stk hp') s.heap h':=by
  intro b ob i1_ g;refine i1_.elim λe n=>?_
  refine⟨⟨?_,n⟩,k b ob g⟩
  rcases hn b with q|⟨q,_⟩
  ·exact q.trans e
  ·exact nomatch q.symm.trans g
 have same:∀a,hp' a≠ae→hp a≠ae∨s.heap.get? a=ae:=λa h=>(hn a).elim (λq=>.inl (q▸h)) λq=>.inr q.1
 refine⟨⟨λa o e=>?_,λa e z=>?_,λb o e=>k b o (ok.base b o e),λa e=>?_,ok.stkn,λa z=>(by obtain⟨o,e⟩:=ok.stkl a z;exact⟨o,k a o e⟩),ok.gens⟩,.exact (λb o y y e=>k b o e) (λb o e=>⟨o,k b o e⟩) (λb o y e d=>⟨o,k b o e,d⟩) (λb e n=>?_) rfl rfl,ky⟩
 ·rcases hn a with q|⟨_,o',q,r⟩
  ·exact(ok.obj a o (q▸e)).keep ky λo g=>k a o g
  ·rw[q]at e;cases e;exact r
 ·rcases same a e with q|q
  ·exact ok.apart a q z
  ·obtain⟨o,g⟩:=ok.stkl a z;rw[q]at g;cases g
 ·rcases same a e with q|q
  ·exact ok.new a q
  ·cases g:P.H₀.get? a with
   |none=>rfl
   |some o=>have:=ok.base a o g;rw[q]at this;cases this
 ·rcases same b n with q|q
  ·exact absurd e q
  ·exact q
noncomputable def sP:DC:=λvs Q X hp=>∃us ws,vs=[.lst us,.lst ws]∧us.length≤ws.length∧∀z hp',sT hp hp' z (zip2 us ws)→Q (.ref z) hp'
noncomputable def Bf:DC:=λvs Q X hp=>∃lo hi us ws,vs=[.rng lo hi,.lst us,.lst ws]∧bQ lo hi 1=true∧(hi - lo).toNat≤us.length∧(hi - lo).toNat≤ws.length∧∀z hp',sT hp hp' z (zip3 (dp lo hi) us ws)→Q (.ref z) hp'
theorem rG{s:af}{a:Addr}(h:s.heap.objs.size≤a):s.heap.get? a=ae:=by
 cases q:s.heap.get? a with
 |none=>rfl
 |some o=>exact absurd (bJ q) (fN.mpr h)
theorem Av{α:Type}:∀ss:List (Addr×α),(ss.map (·.1)).Nodup→∀p∈ss,ss.lookup p.1=some p.2:=by
 intro ss
 induction ss with
 |nil=>exact λz p h=>nomatch h
 |cons q ss ih=>
  intro nd p h
  rw[ar,aP]at nd
  obtain⟨a,b⟩:=q
  rcases am.mp h with rfl|h
  ·exact List.lookup_cons_self
  ·have hne:p.1≠a:=λe=>nd.1 (ay.mpr ⟨p,h,e⟩)
   rw[eG,beq_false_of_ne hne]
   exact ih nd.2 p h
theorem yU{α:Type}{a:Addr}:∀ss:List (Addr×α),a∉ss.map (·.1)→ss.lookup a=ae:=by
 intro ss
 induction ss with
 |nil=>exact λz=>rfl
 |cons q ss ih=>
  intro h
  rw[ar,am,not_or]at h
  obtain⟨b,c⟩:=q
  rw[eG,beq_false_of_ne h.1]
  exact ih h.2
theorem xK{stk:Addr→Prop}{hp:Hp}{s:af}(ok:HeapOk P stk hp s){h':Heap}{z TI TO:Addr}{p0:Addr×O}{ss:List (Addr×O)}{u0 ts:List V}{os:List Value}{Q:V→Hp→Prop}(hk:∀b o,s.heap.get? b=some o→h'.get? b=some o)
 (new:∀a∈TI::z::TO::(p0::ss).map (·.1),s.heap.get? a=ae)(nd:(TI::z::TO::(p0::ss).map (·.1)).Nodup)(hz:kn h' z TI TO .none)(hTI:kQ h' TI (((p0::ss).map (·.1)).map .ref))(hTO:kQ h' TO os)(hos:os.length=(p0::ss).length)(h8:(p0::ss).length≤8)
 (hs:∀p∈p0::ss,(∃us,qd p.2=some us)∧∀F,bW (Fz stk hp) F s.heap h'→OR P.nm P.prog P.w F h' p.1 p.2)(h0:qd p0.2=some u0)(hl:u0.length=ts.length)
 (ht:∀k (hk:k<ts.length),∃vs,ts[k]= .tup vs∧(p0::ss).map (λp=>(qd p.2).bind (·[k]?))=vs.map some)(q:∀hp',sT hp hp' z ts→Q (.ref z) hp'):
 PostT P no1 stk hp s (PV P stk Q) (.ref z) {s with heap:=h'}:=by
 rw[aP,am,not_or]at nd
 obtain⟨⟨nT,nT2⟩,nd⟩:=nd
 have nd1:=nd
 rw[aP,am,not_or,aP]at nd
 obtain⟨⟨nzT,nz⟩,nTO,nd⟩:=nd
 generalize hl:p0::ss=ps at*
 obtain⟨hp5,e5⟩:∃hp5:Hp,hp5=λa=>if a=z then some (.zip TI TO (ps.map (·.1)))else if a=TO then some (.own ps.length)else(ps.lookup a).or (hp a):=⟨_,rfl⟩
 have ez:hp5 z=some (.zip TI TO (ps.map (·.1))):=by rw[e5];exact if_pos rfl
 have eO:hp5 TO=some (.own ps.length):=by rw[e5];exact(if_neg (aS nzT)).trans (if_pos rfl)
 have ep:∀p∈ps,hp5 p.1=some p.2:=λp hp=>by
  have hm:p.1∈ps.map (·.1):=ay.mpr ⟨p,hp,rfl⟩
  rw[e5]
  dsimp only
  have h1:p.1≠z:=λe=>nz (e▸hm)
  have h2:p.1≠TO:=λe=>nTO (e▸hm)
  rw[if_neg h1,if_neg h2,Av ps nd p hp];rfl
 have off:∀a,a∉z::TO::ps.map (·.1)→hp5 a=hp a:=λa h=>by
  rw[am,am,not_or,not_or]at h
  rw[e5]
  dsimp only
  rw[if_neg h.1,if_neg h.2.1,yU ps h.2.2];rfl
 clear e5
 have hn:∀a∈z::TO::ps.map (·.1),hp a=ae:=λa h=>(fz_of_new ok (new a (aq _ h))).1
 have ky:bW (Fz stk hp) (Fz stk hp5) s.heap h':=by
  intro x o i1_ g;refine i1_.elim λe n=>?_
  exact⟨⟨(off x λh=>nomatch (new x (aq _ h)).symm.trans g).trans e,n⟩,hk x o g⟩
 have nTI:=new TI ak
 obtain⟨ok5,ex5,_⟩:=Ao (own:=no1) (tk:=s.toks) (hp':=hp5) ok hk λx=>by
  by_cases h:x∈z::TO::ps.map (·.1)
  ·refine .inr ⟨new x (aq _ h),?_⟩
   rcases am.mp h with rfl|h
   ·exact⟨_,ez,hz,⟨(off _ λh=>(am.mp h).elim nT nT2).trans (fz_of_new ok nTI).1,(fz_of_new ok nTI).2⟩,hTI⟩
   rcases am.mp h with rfl|h
   ·exact⟨_,eO,_,hTO,hos⟩
   ·obtain⟨p,hp,rfl⟩:=ay.mp h
    exact⟨_,ep p hp,(hs p hp).2 _ ky⟩
  ·exact .inl (off x h)
 subst hl
 exact⟨hp5,ex5,ok5,_,q hp5 ⟨TI,TO,p0,ss,u0,nd1,hn,off,ez,eO,h8,λp hp=>⟨ep p hp,(hs p hp).1⟩,h0,‹_›,ht⟩,sJ⟩
theorem itl_or{stk:Addr→Prop}{hp:Hp}{s:af}{h':Heap}{i l:Addr}{xs:Array Value}{us:List V}(il:h'.IsListIter i l 0)(f:Fz stk hp l)(p:s.heap.PlainList l xs)(r:VRs P.nm (Fz stk hp) s.heap us xs.toList):(∃vs,qd (.itl us)=some vs)∧∀F,bW (Fz stk hp) F s.heap h'→OR P.nm P.prog P.w F h' i (.itl us):=
 ⟨⟨us,rfl⟩,λz ky=>⟨l,xs,il,(fY ky f p).1,(fY ky f p).2,r.keep ky⟩⟩
theorem xQ(m:Nat){l:List Nat}(h:l.Nodup):(l.map (m+·)).Nodup:=qZ _ (λz z n e=>n (Nat.add_left_cancel e)) h
theorem xR{m a:Nat}{l:List Nat}(h:a∈l.map (m+·)):m≤a:=by
 obtain⟨k,_,rfl⟩:=ay.mp h
 exact aM m k
theorem OkC.zip2:OkC P Fl d (.type "zip") sP:=by
 rintro A s Q X hp stk vs xs rm fs ok r ⟨us,ws,hv,hl,q⟩
 subst hv
 obtain⟨_,_,rfl,⟨a,as,rfl,fa,pa,ra⟩,_,_,rfl,⟨b,bs,rfl,fb,pb,rb⟩,rfl⟩:=r
 refine call_zip_2 pa.isList pb.isList λh' hz hTI hTO hi hj z hk=>?_
 have new:∀a,s.heap.objs.size≤a→s.heap.get? a=ae:=λz=>rG
 generalize s.heap.objs.size=m at*
 refine xK ok (p0:=(m,.itl us)) (ss:=[(m+1,.itl ws)]) (u0:=us) hk (λa h=>new a (xR (l:=[2,4,3,0,1]) h)) (xQ m (l:=[2,4,3,0,1]) (by decide)) hz hTI hTO rfl (aV rfl) (λp h=>?_) rfl (sV hl) (λk h=>z6 hl h) (q (m+4))
 rcases am.mp h with rfl|h
 ·exact itl_or hi fa pa ra
 ·cases hV.mp h
  exact itl_or hj fb pb rb
theorem OkC.zip3:OkC P Fl d (.type "zip") Bf:=by
 rintro A s Q X hp stk vs xs rm fs ok r ⟨lo,hi,us,ws,hv,hs,hl,hl2,q⟩
 subst hv
 obtain⟨_,_,rfl,⟨c,t,u,v,rfl,fc,gc⟩,_,_,rfl,⟨a,as,rfl,fa,pa,ra⟩,_,_,rfl,⟨b,bs,rfl,fb,pb,rb⟩,rfl⟩:=r
 refine uK gc hs pa.isList pb.isList λh' hz hTI hTO hr hi' hj hk=>?_
 have new:∀a,s.heap.objs.size≤a→s.heap.get? a=ae:=λz=>rG
 generalize s.heap.objs.size=m at*
 rw[←g9]at hl hl2
 refine xK ok (p0:=(m,.itr lo hi)) (ss:=[(m+1,.itl us),(m+2,.itl ws)]) (u0:=dp lo hi) hk (λa h=>new a (xR (l:=[3,5,4,0,1,2]) h)) (xQ m (l:=[3,5,4,0,1,2]) (by decide)) hz hTI hTO rfl (aV rfl) (λp h=>?_) rfl (sU hl hl2) (λk h=>z5 hl hl2 h) (q (m+5))
 rcases am.mp h with rfl|h
 ·rw[rangeSize_one]at hr
  exact⟨⟨_,rfl⟩,λz z=>hr⟩
 rcases am.mp h with rfl|h
 ·exact itl_or hi' fa pa ra
 ·cases hV.mp h
  exact itl_or hj fb pb rb
noncomputable def zQ(K:List V→Hp→Prop)(v:V)(hp1:Hp):Prop:=∃z hp0 ts,v= .ref z∧sT hp0 hp1 z ts∧K ts hp0
noncomputable def ui(fr:List Nat)(src:DE)(t:DA)(f:DT)(inner:CD):DE:=λQ X loc hp=>src (zQ λts hp0=>lQ .none hp0 t f inner (λacc hp'=>Q (.lst acc) hp') ts [] (keepL fr loc) hp0) X loc hp
noncomputable def u4(src:DE)(t:DA)(f:DT)(inner:CD):CD:=λK acc loc hp=>src (zQ λts hp0=>lQ .none hp0 t f inner K ts acc loc hp0) noXA loc hp
theorem Sim.compZ(hd:0<d){elt:Expr}{rest:List cB}{scope:Scope}{pos:Pos}{t iter:Expr}{ifs:List Expr}{idt ids fr:List Nat}{De:DE}{Dt:DA}{Df:DT}{inner:CD}(hG:xB t)(hn1:rest[0]?=ae∨∃t' i' f',rest[0]?=some ⟨t',i',f',0⟩)
 (F:bi P scope sc fr (idt++ids))
 (he:bU P Fl d sc iter De)(ht:SimG P Fl d (jR scope sc) t idt Dt)(htg:Tgt idt Dt)(hf:eM P Fl d (jR scope sc) ifs Df)(hi:SimI P Fl d (jR scope sc) elt (⟨t,iter,ifs,0⟩::rest) scope pos 1 ids inner)(hdis:∀i∈ids,i∉idt)(hfs:∀env x,foldedSetIterable iter env x=pure x):
 bU P Fl d sc (.ListComp elt (⟨t,iter,ifs,0⟩::rest) scope pos) (ui fr De Dt Df inner):=
 Sim.compG hd hG hn1 F he ht htg hf hi hdis hfs (Qe:=λQ loc v hp1=>zQ (λts hp0=>lQ .none hp0 Dt Df inner (λacc hp'=>Q (.lst acc) hp') ts [] (keepL fr loc) hp0) v hp1) λQ loc v hp1 h=>by obtain⟨z,hp0,ts,rfl,Z,lp⟩:=h;exact⟨ts,hp0,.none,its_zip Z,lp⟩
theorem SimI.genZ(hd:0<d){elt:Expr}{gens:List cB}{scope:Scope}{pos:Pos}{k:Nat}{t iter:Expr}{ifs:List Expr}{idt ids:List Nat}{De:DE}{Dt:DA}{Df:DT}{inner:CD}(hG:xB t)(hg:gens[k]?=some ⟨t,iter,ifs,0⟩)(hn1:gens[k+1]?=ae∨∃t' i' f',gens[k+1]?=some ⟨t',i',f',0⟩)
 (he:bU P Fl d sc iter De)(ht:SimG P Fl d sc t idt Dt)(htg:Tgt idt Dt)(hf:eM P Fl d sc ifs Df)(hi:SimI P Fl d sc elt gens scope pos (k+1) ids inner)(hdis:∀i∈ids,i∉idt)(hfs:∀env x,foldedSetIterable iter env x=pure x):
 SimI P Fl d sc elt gens scope pos k (idt++ids) (u4 De Dt Df inner):=
 SimI.genG hd hG hg hn1 he ht htg hf hi hdis hfs (Qe:=λK acc loc v hp1=>zQ (λts hp0=>lQ .none hp0 Dt Df inner K ts acc loc hp0) v hp1) λK acc loc v hp1 h=>by obtain⟨z,hp0,ts,rfl,Z,lp⟩:=h;exact⟨ts,hp0,.none,its_zip Z,lp⟩
end Mine
namespace Mine
noncomputable def kRun{α:Type}(lt:Nat→Nat→Bool):KasT α→α
 | .ret a=>a
 | .ask i j k=>kRun lt (k (lt i j))
noncomputable def w4{α:Type}(n:Nat)(lt:Nat→Nat→Bool):KasT α→Bool
 | .ret _=>true
 | .ask i j k=>decide (i<n)&&decide (j<n)&&w4 n lt (k (lt i j))
noncomputable def CK(x:Nat):List Nat→List (List Nat)
 | []=>[[x]]
 |y::ys=>(x::y::ys)::(CK x ys).map (y::·)
noncomputable def perms:List Nat→List (List Nat)
 | []=>[[]]
 |x::xs=>(perms xs).flatMap (CK x)
noncomputable def rkLt(r:List Nat)(i j:Nat):Bool:=decide (r.getD i 0<r.getD j 0)
noncomputable def po(n:Nat)(r:List Nat):Bool:=w4 n (rkLt r) (kas_sort n)&&(kRun (rkLt r) (kas_sort n)).toList.all (λi=>decide (i<n))&&(((kRun (rkLt r) (kas_sort n)).toList.map λi=>r.getD i 0)==az n)
theorem ok4:(perms (az 4)).all (po 4)=true:=by decide+kernel
theorem ok5:(perms (az 5)).all (po 5)=true:=by decide+kernel
theorem ok6:(perms (az 6)).all (po 6)=true:=by decide+kernel
variable{P:dH}{Fl:iq}{d:Nat}{sc:Scope}
theorem vh{α:Type}{n:Nat}{lt:Nat→Nat→Bool}{cmp:Nat→Nat→(Bool→af→Prop)→af→Prop}{G:α→af→Prop}{s:af}(hc:∀i j C,i<n→j<n→C (lt i j) s→cmp i j C s):∀t:KasT α,w4 n lt t=true→G (kRun lt t) s→t.kasWp cmp G s
 | .ret a,_,h=>h
 | .ask i j k,hi,h=>by
   have hi':(decide (i<n)&&decide (j<n)&&w4 n lt (k (lt i j)))=true:=hi
   rw[bv,bv,decide_eq_true_eq,decide_eq_true_eq]at hi'
   exact hc i j _ hi'.1.1 hi'.1.2 (vh hc (k (lt i j)) hi'.2 h)
theorem qq{prog:Program}{w:d5}{A:aC}{E:Value→af→Prop}{s:af}{a:Addr}{vs:List Value}{n:Nat}{κ:zW}{lt:Nat→Nat→Bool}{R:PySem.Fin→af→Prop}(ho:s.heap.get? a=some (seqObj "list" vs.toArray n))(h2:2≤vs.length)(h64:vs.length<64)
 (hk:∀(s':af)(Q:zW→af→Prop)(E:Value→af→Prop),(∀b o,b≠a→s.heap.get? b=some o→s'.heap.get? b=some o)→Q κ s'→wpAny (model prog w) A (keyKind' vs.toArray) Q E s')
 (hc:∀(s':af) i j (C:Bool→af→Prop)(E:Value→af→Prop),(∀b o,b≠a→s.heap.get? b=some o→s'.heap.get? b=some o)→i<vs.length→j<vs.length→C (lt i j) s'→wpAny (model prog w) A (keyLt' κ (vs.getD i bf) (vs.getD j bf)) C E s')
 (hin:w4 vs.length lt (kas_sort vs.length)=true)(h:R (.done (.ret .none)) {s with heap:=sortedHeap s.heap a vs ((kRun lt (kas_sort vs.length)).toList.map λi=>vs.getD i bf).toArray}):
 wpAny (model prog w) A (Builtin.«list.sort» ⟨[.ref a],[]⟩) R E s:=by
 have ha:a<s.heap.objs.size:=bJ ho
 obtain⟨e1,ho1⟩:∃e1,(s.heap.update a (dQ λz=>(#[]:Array Value))).get? a=some (seqObj "list" #[] e1):=⟨_,get?_update_seq ho λz=> #[]⟩
 have ho6:(((s.heap.update a (dQ λz=>(#[]:Array Value))).push (seqObj "tuple" vs.toArray 0)).push (seqObj "list" #[] 0)).get? a=some (seqObj "list" #[] e1):=an _ (an _ ho1)
 have old:∀b o,b≠a→s.heap.get? b=some o→(((s.heap.update a (dQ λz=>(#[]:Array Value))).push (seqObj "tuple" vs.toArray 0)).push (seqObj "list" #[] 0)).get? b=some o:=λb o nb g=>
  an _ (an _ ((wY _ _ _ _ nb).trans g))
 have hsz:vs.toArray.size=vs.length:=rfl
 rw[list_sort_plain]
 refine wpAny_bind (listItems_at ho rfl ?_)
 refine wpAny_bind (Gb ho rfl ?_ (by rw[hsz,jF];omega) (bx _))
 refine wpAny_bind (GR ho1 rfl ?_)
 refine wpAny_bind (Fe ?_ (by show vs.length≤_;rw[jF];omega))
 refine wpAny_bind (F7 ?_ (bx _))
 refine wpAny_holding ?_
 show wpAny (model prog w) A _ R E {s with heap:=((s.heap.update a (dQ λz=>(#[]:Array Value))).push (seqObj "tuple" vs.toArray 0)).push (seqObj "list" #[] 0)}
 dsimp only
 have hn2:¬vs.toArray.size<2:=by rw[hsz];omega
 rw[if_neg hn2,if_neg hn2]
 refine wpAny_bind (hk _ _ _ old ?_)
 have tree:(kas_sort vs.length).kasWp (kas_cmp prog w A κ (pairsOf vs)) (λp s'=>p=kRun lt (kas_sort vs.length)∧s'={s with heap:=((s.heap.update a (dQ λz=>(#[]:Array Value))).push (seqObj "tuple" vs.toArray 0)).push (seqObj "list" #[] 0)}) {s with heap:=((s.heap.update a (dQ λz=>(#[]:Array Value))).push (seqObj "tuple" vs.toArray 0)).push (seqObj "list" #[] 0)}:=by
  rw[←kas_ask_eq]
  exact vh (λi j C hi hj q=>hc _ i j C _ old hi hj q) _ hin ⟨rfl,rfl⟩
 have run:=kas_runs (E:=E) (it:=pairsOf vs) (κ:=κ) (Q:=λz st' s'=>∃p:Array Nat,p.size=vs.length∧arrOf st'=p.map (EV (pairsOf vs))∧failedOf st'=none∧p=kRun lt (kas_sort vs.length)∧s'={s with heap:=((s.heap.update a (dQ λz=>(#[]:Array Value))).push (seqObj "tuple" vs.toArray 0)).push (seqObj "list" #[] 0)}) h2 h64 (λp' st' s' a1 a2 a3 a4=>⟨p',a1,a2,a3,a4⟩) tree
 have est:vy κ (vs.toArray.zip vs.toArray) #[] 7 none=kas_st κ (pairsOf vs) (CW (az vs.length)):=by
  have e:=kas_range (pairsOf vs)
  rw[pairsOf_size]at e
  show vy κ (vs.toArray.zip vs.toArray) #[] 7 none=vy κ ((CW (az vs.length)).map (EV (pairsOf vs))) #[] 7 none
  rw[e];rfl
 rw[est]
 refine wpAny_bind (wpAny_mono run ?_ λz z e=>e)
 rintro⟨⟨⟩,st'⟩ s' ⟨p,hps,har,hf,rfl,rfl⟩
 dsimp only
 have hout:(arrOf st').map (·.2)=((kRun lt (kas_sort vs.length)).toList.map λi=>vs.getD i bf).toArray:=by
  apply zF.mp
  rw[har,Array.map_map,Array.toList_map]
  exact gQ λi z=>by show(EV (pairsOf vs) i).2=_;rw[kas_item_eq]
 refine wpAny_bind (GR ho6 rfl ?_)
 refine wpAny_bind (Gb ho6 rfl ?_ (bx _) ?_)
 ·rw[hf,hout]
  simp only[bne_self_eq_false,cC,if_false]
  exact wpAny_pure h
 ·refine ac (ax ?_) (show vs.length≤sizeLine+1 by rw[jF];omega)
  show((arrOf st').map (·.2)).size=_
  rw[har,A2,A2,hps]
theorem uy{prog:Program}{w:d5}{A:aC}{E:Value→af→Prop}{s:af}{l:Addr}{vs:List Value}{κ:zW}{lt:Nat→Nat→Bool}{Q:Value→af→Prop}(hl:s.heap.IsList l vs.toArray)(h2:2≤vs.length)(h64:vs.length<64)
 (hk:∀(A:aC)(s':af)(Q:zW→af→Prop)(E:Value→af→Prop),(∀b o,s.heap.get? b=some o→s'.heap.get? b=some o)→Q κ s'→wpAny (model prog w) A (keyKind' vs.toArray) Q E s')
 (hc:∀(A:aC)(s':af) i j (C:Bool→af→Prop)(E:Value→af→Prop),(∀b o,s.heap.get? b=some o→s'.heap.get? b=some o)→i<vs.length→j<vs.length→C (lt i j) s'→wpAny (model prog w) A (keyLt' κ (vs.getD i bf) (vs.getD j bf)) C E s')
 (hin:w4 vs.length lt (kas_sort vs.length)=true)(h:Q (.ref (s.heap.objs.size+1)) {s with heap:=sortedAll s.heap vs ((kRun lt (kas_sort vs.length)).toList.map λi=>vs.getD i bf).toArray}):
 wpAny (model prog w) A (call (.builtin "sorted") [.ref l]) Q E s:=by
 refine Calls.call_function_entry kind_sorted plain_sorted entry_sorted (args_sorted1 _) ?_
 unfold Builtin.«sorted»
 refine wpAny_bind (m:=checkCount "sorted" 1 1 _) (wpAny_pure ?_)
 refine wpAny_bind (collect_list hl ?_ (by rw[jF];omega))
 refine wpAny_bind (F7 ?_ (by rw[jF];omega))
 have hsz:((s.heap.push (seqObj "list" #[] 0)).update s.heap.objs.size (dQ (·++vs.toArray))).objs.size=s.heap.objs.size+1:=by
  rw[zL,size_push']
 have hoL:(((s.heap.push (seqObj "list" #[] 0)).update s.heap.objs.size (dQ (·++vs.toArray))).push (seqObj "list" vs.toArray 0)).get? (s.heap.objs.size+1)=some (seqObj "list" vs.toArray 0):=by
  rw[←hsz];exact aw _ rfl
 have keep:∀b o,s.heap.get? b=some o→(((s.heap.push (seqObj "list" #[] 0)).update s.heap.objs.size (dQ (·++vs.toArray))).push (seqObj "list" vs.toArray 0)).get? b=some o:=λb o q=>
  an _ ((wY _ _ _ _ (cR (bJ q))).trans (an _ q))
 have ne:∀b o,s.heap.get? b=some o→b≠s.heap.objs.size+1:=λb o q=>cR (iE (bJ q))
 show wpAny _ _ _ _ _ {s with heap:=((s.heap.push (seqObj "list" #[] 0)).update s.heap.objs.size (dQ (·++vs.toArray))).push (seqObj "list" vs.toArray 0)}
 rw[hsz]
 refine wpAny_bind (wpAny_holding (jv slot_list_sort ⟨_,hoL,rfl⟩ entry_list_sort (qq hoL h2 h64 (λs' Q E kp q=>hk _ s' Q E (λb o g=>kp b o (ne b o g) (keep b o g)) q) (λs' i j C E kp hi hj q=>hc _ s' i j C E (λb o g=>kp b o (ne b o g) (keep b o g)) hi hj q) hin ⟨_,rfl,?_⟩) (args_list_sort _)))
 exact wpAny_pure ⟨_,rfl,h⟩
noncomputable def gX(p q:Int×Int):Bool:=if p.1=q.1 then decide (p.2<q.2)else decide (p.1<q.1)
noncomputable def jp(p:Int×Int):V:=.tup [.int p.1,.int p.2]
noncomputable def tX(ps:List (Int×Int))(i j:Nat):Bool:=gX (ps.getD i (0,0)) (ps.getD j (0,0))
noncomputable def sortP(ps:List (Int×Int)):List (Int×Int):=(kRun (tX ps) (kas_sort ps.length)).toList.map λi=>ps.getD i (0,0)
noncomputable def yd:DC:=λvs Q X hp=>∃v ps,vs=[v]∧cg hp v=some (ps.map jp)∧2≤ps.length∧ps.length<64∧w4 ps.length (tX ps) (kas_sort ps.length)=true∧(∀i∈(kRun (tX ps) (kas_sort ps.length)).toList,i<ps.length)∧Q (.lst ((sortP ps).map jp)) hp
theorem s9{F:Addr→Prop}{h:Heap}{p:Int×Int}{x:Value}(r:VR P.nm F h (jp p) x):∃a n t u,x= .ref a∧F a∧h.get? a=some {cls:=.type "tuple",data:=.seq #[.int p.1 t,.int p.2 u] n}:=by
 dsimp only[jp,VRe,VRse]at r
 obtain⟨a,xs,rfl,f,⟨n,g⟩,y,ys,e,⟨t,rfl⟩,z,zs,rfl,⟨u,rfl⟩,rfl⟩:=r
 have:xs= #[.int p.1 t,.int p.2 u]:=zF.mp e
 subst this
 exact⟨a,n,t,u,rfl,f,g⟩
theorem yM{F:Addr→Prop}{h:Heap}:∀{ps:List (Int×Int)}{xs:List Value},VRs P.nm F h (ps.map jp) xs→∃fs:List Value,Gq h xs fs∧fs.length=xs.length∧∀v∈fs,∃i t,v= .int i t:=by
 intro xs_
 induction xs_ with
 |nil=>
  intro xs r
  simp only[dR,VRse]at r;subst r;exact⟨[],.nil,rfl,λz h=>nomatch h⟩
 |cons p ps ih=>
  intro xs r
  simp only[ar,VRse]at r
  obtain⟨y,ys,rfl,ry,rs⟩:=r
  obtain⟨a,n,t,u,rfl,_,g⟩:=s9 ry
  obtain⟨fs,k,hl,hi⟩:=ih rs
  refine⟨.int p.1 t::fs,.cons g rfl rfl rfl k,by simp[hl],λv hv=>?_⟩
  rcases am.mp hv with rfl|hv
  ·exact⟨_,_,rfl⟩
  ·exact hi v hv
theorem katKeeps{h h':Heap}(k:∀b o,h.get? b=some o→h'.get? b=some o):∀{vs fs:List Value},Gq h vs fs→Gq h' vs fs:=by
 intro vs
 induction vs with
 |nil=>intro fs t;cases fs with
  |nil=>trivial
  |cons=>exact t.elim
 |cons v vs ih=>intro fs t;cases fs with
  |nil=>exact t.elim
  |cons f fs=>obtain⟨⟨a,o,xs,n,e,g,r⟩,t⟩:=t;exact⟨⟨a,o,xs,n,e,k a o g,r⟩,ih t⟩
theorem Am{prog:Program}{w:d5}{A:aC}{s:af}{x y:Addr}{p q:Int×Int}{n k:Nat}{t u t' u':Tok}{C:Bool→af→Prop}{E:Value→af→Prop}(hx:s.heap.get? x=some {cls:=.type "tuple",data:=.seq #[.int p.1 t,.int p.2 u] n})(hy:s.heap.get? y=some {cls:=.type "tuple",data:=.seq #[.int q.1 t',.int q.2 u'] k})(h:C (gX p q) s):
 wpAny (model prog w) A (keyLt' (tuples' true) (.ref x) (.ref y)) C E s:=by
 refine kat_lt hx rfl hy rfl (kat_cons (DV (kat_go (λe=>kat_yes (kat_cons (DV (kat_go (λe2=>kat_yes (kat_nil ?_)) λe2=>kat_no (kat_one _ _ ?_))))) λe=>kat_no ?_)))
 ·have e1:p.1=q.1:=by simpa using e
  have e3:p.2=q.2:=by simpa using e2
  have:gX p q=false:=by unfold gX;rw[if_pos e1,e3];simp
  rw[this]at h;exact h
 ·have e1:p.1=q.1:=by simpa using e
  refine qu ?_
  have:gX p q=decide (p.2<q.2):=by unfold gX;rw[if_pos e1]
  rw[this]at h;exact h
 ·have e1:p.1≠q.1:=by simpa using e
  refine oneLt_int ?_
  have:gX p q=decide (p.1<q.1):=by unfold gX;rw[if_neg e1]
  rw[this]at h;exact h
theorem zu{F:Addr→Prop}{h:Heap}{ps:List (Int×Int)}{xs:List Value}(r:VRs P.nm F h (ps.map jp) xs):∀is:List Nat,(∀i∈is,i<ps.length)→VRs P.nm F h ((is.map λi=>ps.getD i (0,0)).map jp) (is.map λi=>xs.getD i bf):=by
 intro xs_
 induction xs_ with
 |nil=>
  intro _
  simp only[dR,VRse]
 |cons i is ih=>
  intro hi
  have h1:i<ps.length:=hi i ((.head _))
  refine(r.get (i:=i) (v:=jp (ps.getD i (0,0))) (by simp[h1])).elim λy r1_=>r1_.elim λey ry=>?_
  simp only[ar,VRse]
  refine⟨_,_,rfl,?_,ih λj hj=>hi j (by simp[hj])⟩
  have e:xs.getD i bf=y:=by rw[aX,ey];rfl
  rw[e];exact ry
theorem OkC.sortP:OkC P Fl d (.builtin "sorted") yd:=by
 rintro A s Q X hp stk vs xs rm fs ok r ⟨v,ps,hv,hu,h2,h64,hin,hlt,q⟩
 subst hv
 obtain⟨x,ys,rfl,r,rfl⟩:=r
 obtain⟨a,zs,rfl,p,rz⟩:=bz ok r hu
 have hl:zs.toList.length=ps.length:=by rw[rz.length,aj]
 obtain⟨gs,hg,hgl,hgi⟩:=yM rz
 have p':s.heap.IsList a zs.toList.toArray:=by simpa using p.isList
 have at':∀i,i<zs.toList.length→∃b n t u,zs.toList.getD i bf= .ref b∧s.heap.get? b=some {cls:=.type "tuple",data:=.seq #[.int (ps.getD i (0,0)).1 t,.int (ps.getD i (0,0)).2 u] n}:=λi hi=>by
  have hi2:i<ps.length:=by lia
  obtain⟨y,ey,ry⟩:=rz.get (i:=i) (v:=jp (ps.getD i (0,0))) (by simp[hi2])
  obtain⟨b,n,t,u,rfl,_,g⟩:=s9 ry
  exact⟨b,n,t,u,by rw[aX,ey];rfl,g⟩
 refine uy (κ:=tuples' true) (lt:=tX ps) p' (by lia) (by lia) (λA s' Q E kp q=>?_) (λA s' i j C E kp hi hj q=>?_) (by rw[hl];exact hin) ?_
 ·refine kat_kind (T:=.type "int") (katKeeps kp hg) (by lia) (λv hv=>?_) (by decide) q
  obtain⟨i,t,rfl⟩:=hgi v hv
  exact ka rfl
 ·refine(at' i hi).elim λb r1_=>r1_.elim λn r2_=>r2_.elim λt r3_=>r3_.elim λu r4_=>r4_.elim λe1 g1=>?_
  refine(at' j hj).elim λb' r1_=>r1_.elim λn' r2_=>r2_.elim λt' r3_=>r3_.elim λu' r4_=>r4_.elim λe2 g2=>?_
  rw[e1,e2]
  exact Am (kp _ _ g1) (kp _ _ g2) q
 ·refine(GE s.heap zs.toList ((kRun (tX ps) (kas_sort zs.toList.length)).toList.map λi=>zs.toList.getD i bf).toArray).elim λe he=>?_
  have k:∀b o,s.heap.get? b=some o→(sortedAll s.heap zs.toList ((kRun (tX ps) (kas_sort zs.toList.length)).toList.map λi=>zs.toList.getD i bf).toArray).get? b=some o:=λb o g=>F9 g
  refine k7 (tk:=s.toks) ok k q ?_
  simp only[VRe]
  refine⟨_,_,rfl,fz_of_new ok (rG (gC _)),⟨e,he⟩,?_⟩
  rw[hl]
  exact zu (ps:=ps) (rz.keep λa o f g=>⟨f,by rw[←hl];exact k a o g⟩) _ hlt
end Mine
namespace Mine
variable{P:dH}{Fl:iq}{d:Nat}{sc:Scope}
noncomputable def fM(c:Nat):List Nat→List (List Nat)
 | []=>[[]]
 |x::xs=>if x=c then []::fM c xs else match fM c xs with
  | []=>[[x]]
  |y::ys=>(x::y)::ys
theorem jr(c:Nat):∀(ps:List (List Nat))(p:List Nat),c∉p→(∀q∈ps,c∉q)→fM c (p++(ps.map (c::·)).flatten)=p::ps
 | [],[],_,_=>rfl
 |q::ps,[],_,h=>by
  have ih:=jr c ps q (h q (ak)) λr hr=>h r (by simp[hr])
  show fM c (c::(q++(ps.map (c::·)).flatten))=_
  unfold fM
  rw[if_pos rfl,ih]
 |ps,x::p,hp,h=>by
  simp only[am,not_or]at hp
  have ih:=jr c ps p hp.2 h
  show fM c (x::(p++(ps.map (c::·)).flatten))=_
  unfold fM
  rw[if_neg (aS hp.1),ih]
theorem ql(c:Nat):∀(ps:List Str)(p:Str),(GG ⟨#[c]⟩ (p::ps)).cps.toList=p.cps.toList++(ps.map λq=>c::q.cps.toList).flatten:=by
 intro xs_
 induction xs_ with
 |nil=>
  intro p
  show p.cps.toList=_;simp
 |cons q ps IH=>
  intro p
  have ih:=IH q
  show(p++⟨#[c]⟩++GG ⟨#[c]⟩ (q::ps)).cps.toList=_
  simp only[Str.cps_append,jh,ih,ar,iA,b7]
  rfl
theorem yG(l:List Nat)(c:Nat):(tQ ⟨l.toArray⟩ ⟨#[c]⟩).map (λx=>x.cps.toList)=fM c l:=by
 have hj:=StrLaws.join_split ⟨l.toArray⟩ ⟨#[c]⟩
 have hf:=StrLaws.split_free ⟨l.toArray⟩ c
 cases hs:tQ ⟨l.toArray⟩ ⟨#[c]⟩with
 |nil=>have:=split_pos ⟨l.toArray⟩ ⟨#[c]⟩;rw[hs]at this;exact absurd this (by trivial)
 |cons p ps=>
  rw[hs]at hj hf
  have e:=congrArg (λx:Str=>x.cps.toList) hj
  simp only[ql]at e
  have e2:l=p.cps.toList++((ps.map λq=>q.cps.toList).map (c::·)).flatten:=by rw[bF];exact e.symm
  rw[e2,jr c _ _ (hf p (ak)) λq hq=>(by obtain⟨r,hr,rfl⟩:=ay.mp hq;exact hf r (by simp[hr]))]
  rfl
noncomputable def lm:DC:=λvs Q X hp=>∃l c,vs=[.str l,.str [c]]∧l.length≤lim∧Q (.lst ((fM c l).map .str)) hp
theorem v6{F:Addr→Prop}{h:Heap}:∀(ps:List (Str×Tok)),VRs P.nm F h ((ps.map λp=>p.1.cps.toList).map .str) (strValues ps):=by
 intro xs_
 induction xs_ with
 |nil=>
  simp only[dR,VRse];rfl
 |cons e_ ps ih=>
  obtain⟨x,t⟩:=e_
  simp only[ar,VRse]
  exact⟨.str x t,strValues ps,rfl,xk,ih⟩
theorem OkC.split:OkC P Fl d (.builtin "str.split") lm:=by
 rintro A s Q X hp stk vs xs rm fs ok r ⟨l,c,hv,hl,q⟩
 subst hv
 obtain⟨_,_,rfl,⟨t,rfl⟩,_,_,rfl,⟨u,rfl⟩,rfl⟩:=r
 have hle:=split_le ⟨l.toArray⟩ ⟨#[c]⟩
 have hxl:(⟨l.toArray⟩:Str).length=l.length:=rfl
 have key:∀(ps:List (Str×Tok))(tk n:Nat),ps.map (·.1)=tQ ⟨l.toArray⟩ ⟨#[c]⟩→PostT P no1 stk hp s (PV P stk Q) (.ref s.heap.objs.size) {s with heap:=s.heap.push {cls:=.type "list",data:=.seq (strValues ps).toArray n},toks:=tk}:=λps tk n e=>by
  refine j7 (vs:=(fM c l).map .str) ok ?_ q
  rw[←yG,←e,bF]
  have:=v6 (P:=P) (F:=Fz stk hp) (h:=s.heap) ps
  simpa only[bF,uR]using this
 have hlim:=fB
 cases h1:(decide ((⟨l.toArray⟩:Str).length<(⟨#[c]⟩:Str).length)||decide (q8 (⟨l.toArray⟩:Str)<q8 (⟨#[c]⟩:Str)))
 ·cases hf:(o7 ⟨l.toArray⟩ ⟨#[c]⟩ 0 (⟨l.toArray⟩:Str).length ((⟨l.toArray⟩:Str).length+1)).isEmpty
  ·refine fX F.slot_str_split (uo _ _ _) F.entry_str_split (F.args_str_split_2 _ _) (meets_str_split_sep ⟨l.toArray⟩ ⟨#[c]⟩ t u h1 rfl hf (by rw[hxl];exact ac hl hlim) ?_) ?_
   ·have e:tQ ⟨l.toArray⟩ ⟨#[c]⟩=FU ⟨l.toArray⟩ (o7 ⟨l.toArray⟩ ⟨#[c]⟩ 0 (⟨l.toArray⟩:Str).length ((⟨l.toArray⟩:Str).length+1)) (⟨#[c]⟩:Str).length:=(if_neg (ne_true_of_eq_false h1)).trans (if_neg (ne_true_of_eq_false hf))
    rw[←e]
    refine ac hle ?_
    rw[hxl]
    have:lim+2≤sizeLine:=by decide
    lia
   ·rw[strsFrom_eq]
    exact key (numbered s.toks _) _ _ ((numbered_texts _ _).trans ((if_neg (ne_true_of_eq_false h1)).trans (if_neg (ne_true_of_eq_false hf))).symm)
  ·exact fX F.slot_str_split (uo _ _ _) F.entry_str_split (F.args_str_split_2 _ _) (meets_str_split_not_found ⟨l.toArray⟩ ⟨#[c]⟩ t u h1 rfl hf)
    (key [(_,t)] _ _ ((if_neg (ne_true_of_eq_false h1)).trans (if_pos hf)).symm)
 ·exact fX F.slot_str_split (uo _ _ _) F.entry_str_split (F.args_str_split_2 _ _) (meets_str_split_cannot_occur ⟨l.toArray⟩ ⟨#[c]⟩ t u h1)
   (key [(_,t)] _ _ (if_pos h1).symm)
noncomputable def Bh:DC:=λvs Q X hp=>∃v us ns,vs=[v]∧cg hp v=some us∧lh us=some ns∧ns≠ []∧∀M,M∈ns→(∀a∈ns,a≤M)→Q (.int M) hp
theorem OkC.maxL(hd:0<d):OkC P Fl d (.builtin "max") Bh:=by
 rintro A s Q X hp stk vs xs rm fs ok r ⟨v,us,ns,hv,hu,hns,hne,q⟩
 subst hv
 obtain⟨x,ys,rfl,r,rfl⟩:=r
 obtain⟨a,zs,rfl,p,rz⟩:=bz ok r hu
 have hI:=lK rz hns
 refine hI.allInts.items.elim λxs hxs=>?_
 have e0:zs=intItems xs:=by simpa using hxs
 subst e0
 have hns2:ns=xs.toList.map (·.1):=by
  have h1:=Ga (xs:=xs)
  rw[←h1];exact hI.numsOf.symm
 have hsz:xs.size=ns.length:=by rw[hns2];simp
 have hpos:0<xs.size:=by rw[hsz];exact mI.mpr hne
 have hat:∀j,numAt xs j=ns.getD j 0:=λj=>by rw[numAt_eq,hns2]
 refine max_intList (rm.hd hd) p.isList hpos λv h' tk hv k=>?_
 refine(intItems_at hv).elim λt e1_=>?_;subst e1_
 obtain⟨b1,b2⟩:=argBest_gt (numAt xs) (xs.size - 1)
 refine k7 ok k (q _ ?_ λa ha=>?_) vInt
 ·have hlt:argBest (λi j=>decide (numAt xs i>numAt xs j)) (xs.size - 1)<ns.length:=by lia
  rw[hat,aX,au hlt]
  exact iX hlt
 ·obtain⟨j,hj,rfl⟩:=md.mp ha
  have:=b2 j (by lia)
  rw[hat j,aX,au hj]at this
  exact this
noncomputable def vp:DC:=λvs Q X hp=>∃v ds k e j,vs=[v,k]∧toD hp v=some (.list ds)∧toD hp k=some e∧bO (.list ds)=true∧bO e=true∧ds.length≤lim∧(∃x,ds[j]?=some x∧cy x e=true)∧(∀m x,m<j→ds[m]?=some x→cy x e=false)∧Q (.int (j:Nat)) hp
theorem OkC.indexD:OkC P Fl d (.builtin "list.index") vp:=by
 rintro A s Q X hp stk vs xs rm fs ok r ⟨v,ds,k,e,j,hv,e1,e2,s1,s2,hl,⟨xj,hj,hit⟩,hno,q⟩
 subst hv
 obtain⟨x,ys,rfl,rx,y,zs,rfl,ry,rfl⟩:=r
 obtain⟨as,r1⟩:=lf ok rx e1
 obtain⟨bs,r2⟩:=lf ok ry e2
 have c1:fS ds=true:=by have:=d4 s1;simpa[fp]using this
 have rr:=Fh (A:=A) (xs:=ds) s2 (by have:=rm.units;lia)
 cases r1 with
 | @list a o items n ds' as' g hc hd ra=>
   have hm:=SeqAt.readsAll_map ds _ _ c1 ra
   have hsz:items.size=ds.length:=by rw[←hm];simp
   have at':∀m (hm':m<items.size),∃x,ds[m]?=some x∧kR s.heap items[m]=x:=λm hm'=>by
    have h1:ds[m]?=some (kR s.heap items[m]):=by rw[←hm];simp[hm']
    exact⟨_,h1,rfl⟩
   have hjl:j<items.size:=by rw[hsz];exact(bA.mp hj).1
   obtain⟨cls,dd,data,sl⟩:=o
   simp only at hc hd
   subst hc hd
   refine fX F.slot_list_index ⟨_,g,rfl⟩ F.entry_list_index (F.args_list_index_2 _ _) (SeqAt.list_indexAt _ items n dd sl _ (λy=>cy (kR s.heap y) e) j hjl (by unfold lim at hl;lia) ?_ λm hm' hlt=>?_) ⟨g,SeqAt.items_eqAt ra r2 c1 (d4 s2) rr,gY ok q vInt⟩
   ·obtain⟨x,h1,h2⟩:=at' j hjl
    rw[hj]at h1;cases h1
    show cy (kR s.heap items[j]) e=true
    rw[h2];exact hit
   ·obtain⟨x,h1,h2⟩:=at' m hm'
    show cy (kR s.heap items[m]) e=false
    rw[h2];exact hno m x hlt h1
end Mine
namespace Mine
variable{P:dH}{Fl:iq}{d:Nat}{sc:Scope}{ex:Nat→Value}
noncomputable def bV:List Stmt→Nat→Stmt
 | [],_=>.Pass ⟨0,0,0,0⟩
 |s::_,0=>s
 |_::l,n+1=>bV l n
noncomputable def uU:Stmt→List Stmt×Scope×Arguments×Pos
 | .FunctionDef _ a b _ _ _ s _ _ p=>(b,s,a,p)
 | .ClassDef _ _ _ b _ _ _ _ _ _ _=>(b,{kind:=.function,names:=[],isGenerator:=false,isCoroutine:=false,more:=[]},default,⟨0,0,0,0⟩)
 |_=>([],{kind:=.function,names:=[],isGenerator:=false,isCoroutine:=false,more:=[]},default,⟨0,0,0,0⟩)
noncomputable def dO(s:Stmt):List Stmt:=(uU s).1
noncomputable def ml(s:Stmt):Scope:=(uU s).2.1
noncomputable def Bm(s:Stmt):Arguments:=(uU s).2.2.1
noncomputable def E3(s:Stmt):Pos:=(uU s).2.2.2
noncomputable def FV(sc:Scope)(x:Str):Bool:=(match sc.names.lookup x with|some .local=>true|some .cell=>true|some .free=>true|_=>false)&& !(x==("__debug__" :Str))&& !(x==("__classdict__" :Str))
noncomputable def FY(sc:Scope)(x:Str):Bool:=match sc.names.lookup x with|some .local=>true|some .cell=>true|_=>false
noncomputable def Eg(sc:Scope)(x:Str):Bool:=decide (sc.names.lookup x=some .globalImplicit)&& !(x==("__debug__" :Str))
theorem Sim.v{i:Nat}{x:Str}{pos:Pos}(hx:P.nm i=x:=by exact rfl)(h:FV sc x=true:=by kernel_rfl):bU P Fl d sc (.Name x pos) (ai i):=by
 unfold FV at h
 rw[bv,bv,gf,gf]at h
 exact Sim.var hx h.1.1 h.1.2 h.2
theorem SimG.v(inj:∀i j,P.nm i=P.nm j→i=j){i:Nat}{x:Str}{pos:Pos}(hx:P.nm i=x:=by exact rfl)(h:FY sc x=true:=by kernel_rfl):SimG P Fl d sc (.Name x pos) [i] (aG i):=SimG.var inj hx h
theorem SimS.asgN{i:Nat}{x:Str}{pos pos':Pos}{e:Expr}{D:DE}(inj:∀i j,P.nm i=P.nm j→i=j)(hx:P.nm i=x)(hk:FY sc x=true)
 (h:bU P Fl d sc e D)(hs':∀env:Env,env.scope=sc→swapsWith e (some (.Name x pos')) pos.line env=pure false):SimS P Fl d sc (.Assign [.Name x pos'] e pos) (bB D (aG i)):=SimS.asgName inj hx hk h hs'
theorem Sim.g{mg mb:Str→Option Value}(tp:eL P mg mb){x:Str}{pos:Pos}{v:Value}(h:Eg sc x=true)(hv:mg x=some v):bU P Fl d sc (.Name x pos) (aQ (.fn v)):=by
 unfold Eg at h
 rw[bv,gf,decide_eq_true_eq]at h
 exact Sim.glob tp h.1 h.2 hv
theorem Sim.b{mg mb:Str→Option Value}(tp:eL P mg mb){x:Str}{pos:Pos}{v:Value}(h:Eg sc x=true)(hm:mg x=ae)(hv:mb x=some v):bU P Fl d sc (.Name x pos) (aQ (.fn v)):=by
 unfold Eg at h
 rw[bv,gf,decide_eq_true_eq]at h
 exact Sim.built tp h.1 h.2 hm hv
noncomputable def cE(P:dH)(a:Addr)(st:Stmt)(bd:List V→Hp→Option (List (Nat×V))):Prop:=∃fd,mZ P a fd (dO st)∧fd.scope=ml st∧BindOk P fd bd
noncomputable def yi(nm:Nat→Str)(sc:Scope)(ids:List Nat):Bool:=(ids.all λi=>(sc.names.lookup (nm i)==some .local)||(sc.names.lookup (nm i)==some .cell))&&decide (ids.map nm).Nodup
noncomputable def BdIds(bd:List V→Hp→Option (List (Nat×V)))(ids:List Nat):Prop:=∀vs hp ps,bd vs hp=some ps→ps.map (·.1)=ids
theorem BdIds.pos(ids:List Nat):BdIds (bdPos ids) ids:=by
 intro vs hp ps h
 by_cases hl:vs.length=ids.length
 ·cases (if_pos hl).symm.trans h;exact List.map_fst_zip (by lia)
 ·cases (if_neg hl).symm.trans h
theorem BdIds.def1(i j:Nat):BdIds (nJ i j) [i,j]:=by
 intro vs hp ps h
 rcases vs with _|⟨v,_|⟨u,us⟩⟩<;>cases h
 rfl
theorem BdIds.star1(i r:Nat):BdIds (bdStar1 i r) [i,r]:=by
 intro vs hp ps h
 rcases vs with _|⟨v,us⟩
 ·cases h
 ·by_cases hl:us.length≤lim
  ·cases (if_pos hl).symm.trans h;rfl
  ·cases (if_neg hl).symm.trans h
theorem BdIds.star2(i j r:Nat):BdIds (lI i j r) [i,j,r]:=by
 intro vs hp ps h
 rcases vs with _|⟨v,_|⟨u,us⟩⟩
 ·cases h
 ·cases h
 ·by_cases hl:us.length≤lim
  ·cases (if_pos hl).symm.trans h;rfl
  ·cases (if_neg hl).symm.trans h
theorem OkK.fn{nm:Nat→Str}(hnm:P.nm=nm){mg mb:Str→Option Value}(tp:eL P mg mb){a:Addr}{st:Stmt}{bd:List V→Hp→Option (List (Nat×V))}{ids:List Nat}{D:DS}(F:cE P a st bd)(hi:BdIds bd ids)(hc:yi nm (ml st) ids=true)
 (h:SimSs P (dy ex) d (ml st) (dO st) D):OkK P (dy ex) (d+1) (.ref a) (jm bd D):=by
 subst hnm
 refine F.elim λfd r1_=>r1_.elim λFF r2_=>r2_.elim λhsc hb=>?_
 refine OkK.fun tp FF hb (λvs hp ps hps=>?_) (by rw[hsc];exact h)
 have hm:=hi vs hp ps hps
 unfold yi at hc
 rw[bv]at hc
 refine hc.elim λh1 h2=>?_
 refine⟨λp hp'=>?_,?_⟩
 ·have:p.1∈ids:=by rw[←hm];exact ay.mpr ⟨p,hp',rfl⟩
  have:=bY.mp h1 p.1 this
  rw[hsc]
  simpa using this
 ·have e:(ps.map λp=>P.nm p.1)=ids.map P.nm:=by rw[←hm,bF];rfl
  rw[e];exact of_decide_eq_true h2
noncomputable def vt(nm:Nat→Str)(scope sc:Scope)(fr ids:List Nat):Bool:=
 (scope.kind== .function)&&decide (scope.names.map (·.1)).Nodup&&(fr.all λi=>scope.names.lookup (nm i)==some .free)&&
 (scope.names.all λp=>p.2 != .free||(sc.names.lookup p.1==some .cell||sc.names.lookup p.1==some .free))&&
 (ids.all λi=>scope.names.lookup (nm i)==some .local||scope.names.lookup (nm i)==some .cell)
theorem bi.of{nm:Nat→Str}(hnm:P.nm=nm:=by exact rfl){scope sc:Scope}{fr ids:List Nat}(h:vt nm scope sc fr ids=true:=by kernel_rfl):bi P scope sc fr ids:=by
 subst hnm
 unfold vt at h
 simp only[bv]at h
 refine h.elim λe1_ h5=>e1_.elim λe2_ h4=>e2_.elim λe3_ h3=>e3_.elim λh1 h2=>?_
 refine⟨by simpa using h1,of_decide_eq_true h2,λi hi=>by simpa using bY.mp h3 i hi,λn hn=>?_,λi hi=>by simpa using bY.mp h5 i hi⟩
 have:=bY.mp h4 _ hn
 simpa using this
theorem Sim.joined1{e:Expr}{pos:Pos}{D:DE}(h:bU P Fl d sc e D):bU P Fl d sc (.JoinedStr [e] pos) D:=λA env s Q X loc hp stk rm hs ev ok hD=>wpAny_JoinedStr_one (h A env s Q X loc hp stk rm hs ev ok hD)
noncomputable def nmOf(L:List Str)(i:Nat):Str:=match L[i]? with|some x=>x|none=>⟨(aB (i+40) 120).toArray⟩
theorem Cf(L:List Str)(h:(decide L.Nodup&&L.all λx=>decide (x.cps.size<40))=true):∀i j,nmOf L i=nmOf L j→i=j:=by
 rw[bv]at h
 refine h.elim λh1 h2=>?_
 have hn:L.Nodup:=of_decide_eq_true h1
 intro i j e
 unfold nmOf at e
 have small:∀(i:Nat)(x:Str),L[i]?=some x→x.cps.size<40:=λi (x:Str) hx=>of_decide_eq_true (bY.mp h2 x (dx hx))
 cases hi:L[i]? with
 |some x=>
  cases hj:L[j]? with
  |some y=>
   rw[hi,hj]at e
   simp only at e
   subst e
   obtain⟨li,ei⟩:=bA.mp hi
   obtain⟨lj,ej⟩:=bA.mp hj
   exact(zI hn).mp (ei.trans ej.symm)
  |none=>
   rw[hi,hj]at e
   simp only at e
   have:=small i x hi
   rw[e]at this
   simp at this;lia
 |none=>
  cases hj:L[j]? with
  |some y=>
   rw[hi,hj]at e
   simp only at e
   have:=small j y hj
   rw[←e]at this
   simp at this;lia
  |none=>
   rw[hi,hj]at e
   simp only[Str.mk.injEq]at e
   have:=congrArg Array.size e
   simp at this;lia
theorem Sim.globInt{mg mb:Str→Option Value}(tp:eL P mg mb){x:Str}{pos:Pos}{i:Int}(hk:sc.names.lookup x=some .globalImplicit)(hd:(x==("__debug__" :Str))=false)(hv:∃t,mg x=some (.int i t)):bU P Fl d sc (.Name x pos) (aQ (.int i)):=by
 intro A env s Q X loc hp stk _ hs ev ok hq
 refine hv.elim λt hv=>?_
 refine wpAny_Name ?_ hd
 have hkind:env.kindOf x=some .globalImplicit:=by rw[←hk,←hs];rfl
 rw[ly ev.kind hkind]
 refine qh (mg:=mg) ?_ hv ⟨hp,.refl ..,ok,_,hq,vInt⟩
 rw[ev.glob];exact tp.g.keeps ok.base
noncomputable def xI:B2:=λx y Q hp=>∃xs ys,cg hp x=some xs∧cg hp y=some ys∧xs.length+ys.length≤lim∧∀l,hp l=ae→Q (.ref l) (upd hp l (.lst (xs++ys)))
theorem An:pc P Fl (binaryOp .Add) xI:=by
 rintro A s Q X hp stk v u x y rm ok rv ru ⟨xs,ys,h1,h2,hl,hq⟩
 obtain⟨a,as,rfl,⟨n,pa⟩,ra⟩:=bz ok rv h1
 obtain⟨b,bs,rfl,⟨m,pb⟩,rb⟩:=bz ok ru h2
 refine PySem.P.add_list (n:=n) (n2:=m) pa pb ?_ ?_
 ·refine newTracked (tk:=s.toks) (o:=.lst (xs++ys)) ok rfl ?_ hq
  refine⟨as++bs,⟨_,aw _ rfl⟩,?_⟩
  rw[jh]
  exact VRs.keep (bW.upd (λb o e=>an _ e) (eV _)) (ra.append rb)
 ·have h1:=gO ra
  have h2:=gO rb
  have:=fB
  lia
end Mine
namespace Mine
noncomputable abbrev cN:Addr:=40
noncomputable abbrev cT:Addr:=137
noncomputable abbrev cW:Addr:=203
noncomputable def kM:DS:=
 (aA (bB (ai 1) (jE (k8 cN 0) (ai 0)))
 (aA (bB (aQ (.int 0)) (jE (k8 cN 1) (ai 0)))
 (aA (bB (mi aF) (jE (k8 cN 2) (ai 0)))
 aH)))
noncomputable def gP:DC:=jm (bdPos [0,1]) kM
noncomputable def jA:DS:=
 (aA (zP 3 (bX qz xp (cX (b4 cT 2) (ai 0)) (av (ai 1) aF)) (aA (xz (aT (uh cN gP) (av (ai 1) aF)) (pf (cX (b4 cT 2) (ai 0)) (ai 1)) (aG 3))
 aH) aH)
 (aA (gH (ai 3))
 aH))
noncomputable def ew:DC:=jm (bdPos [0,1]) jA
noncomputable def kz:DS:=
 (aA (bB (bX (cY cT 6) ew (ai 0) (av (ai 8) aF)) (aG 9))
 (aA (jk (bX gJ ff (cX (iy cN 2) (ai 9)) (av (ai 1) aF)))
 aH))
noncomputable def tG:DS:=
 (aA (kg (cG jq (cX (b4 cT 5) (ai 0)) (aQ .none))
 (aA (λz z z z=>False)
 aH)
 aH)
 (aA (bB (bX (cY cT 6) ew (ai 0) (av (ai 1) aF)) (aG 7))
 (aA (vL (iy cN 1) (k8 cN 1) (mj (·+·)) (ai 7) (aT d9 (av (ai 4) aF)))
 (aA (i8 (ai 4) (aG 8)
 kz)
 aH))))
noncomputable def m0:DC:=jm (lI 0 1 4) tG
noncomputable def qV:DS:=
 (aA (bB uZ (jE (go cT 2) (ai 0)))
 (aA (bB (aQ .none) (jE (go cT 5) (ai 0)))
 (aA (bB (aQ (.int 0)) (jE (go cT 11) (ai 0)))
 (aA (bB (aQ (.int 0)) (jE (go cT 12) (ai 0)))
 (aA (kg (cG jq (ai 10) (aQ .none))
 (aA (λz z z z=>False)
 aH)
 aH)
 aH)))))
noncomputable def lM:DC:=jm (nJ 0 10) qV
noncomputable def eu:DS:=
 (aA (zO 0
 (aA (bB (xE (aZ bw (ai 15) (zS (aQ (.int 1))))) (aG 1))
 (aA sK
 aH))
 (aA (BK (ai 17) (bX gJ BU (ai 14) aF))
 (aA (jk (bX gJ BU (ai 15) aF))
 aH)))
 aH)
noncomputable def fH:DS:=
 (aA (kg (cG p9 (ai 1) (ai 16))
 (aA (kg (cG p9 (ai 1) (ai 17))
 (aA (gH (aZ ef (kP (ai 14) (aZ bw (ai 17) (ai 1)) (aQ .none) (aQ .none)) (jS (av (ai 1) aF))))
 aH)
 aH)
 aH)
 (aA (jk (bX xC BX (ai 16) (av (ai 1) aF)))
 (aA (jk (bX gJ ff (ai 15) (av (cX ul (aT xG (av (cX (iy cN 2) (aZ bw (ai 13) (ai 1))) aF))) aF)))
 (aA (bB (aT d9 (av (ai 14) aF)) (pf (ai 17) (ai 1)))
 (aA (jk (bX gJ ff (ai 14) (av (ai 1) aF)))
 aH)))))
 (aA (mm (me (ai 14))
 eu
 (aA sK
 aH))
 aH))
noncomputable def gV:DS:=
 (aA (kg (cG p9 (ai 1) (ai 16))
 (aA xw
 aH)
 aH)
 (aA (mm (me (aQ (.bool true)))
 fH
 aH)
 aH))
noncomputable def kf:DS:=
 (aA (bB (cX (b4 cT 2) (ai 0)) (aG 13))
 (aA (bB (mi aF) (aG 14))
 (aA (bB (mi aF) (aG 15))
 (aA (bB (aT Bg aF) (aG 16))
 (aA (bB uZ (aG 17))
 (aA (i8 (ai 13) (aG 1)
 gV)
 (aA (gH (aQ .none))
 aH)))))))
noncomputable def d3:DC:=jm (bdPos [0]) kf
noncomputable def m8:DS:=
 (aA (kg (cG jq (cX (b4 cT 5) (ai 0)) (aQ .none))
 (aA (λz z z z=>False)
 aH)
 aH)
 (aA (bB (uj [] (bX qz vo (cX (b4 cT 2) (ai 0)) aF) (aG 18) (cG pX (cX (iy cN 1) (ai 18)) (aQ (.int 0))) (dJ (cX (iy cN 0) (ai 18)))) (jE (go cT 5) (ai 0)))
 (aA (bB (bX (cY cT 19) d3 (ai 0) aF) (aG 20))
 (aA (kg (me (ai 20))
 (aA (t5 1 (av (aQ (.str [110,111,100,101,115,32,97,114,101,32,105,110,32,97,32,99,121,99,108,101])) (av (ai 20) aF)))
 aH)
 aH)
 aH))))
noncomputable def jd:DC:=jm (bdPos [0]) m8
noncomputable def gk:DS:=
 (aA (bB (aQ (.int (-1))) (jE (k8 cN 1) (aZ bw (ai 13) (ai 1))))
 aH)
noncomputable def lB:DS:=
 (aA (kg (cG A7 (cX (b4 cT 5) (ai 0)) (aQ .none))
 (aA (λz z z z=>False)
 aH)
 aH)
 (aA (bB (aT sQ (av (cX (b4 cT 5) (ai 0)) aF)) (aG 3))
 (aA (bB (cX (b4 cT 2) (ai 0)) (aG 13))
 (aA (i8 (ai 3) (aG 1)
 gk)
 (aA (jk (bX gJ yf (cX (b4 cT 5) (ai 0)) aF))
 (aA (vL (b4 cT 11) (go cT 11) (mj (·+·)) (ai 0) (aT d9 (av (ai 3) aF)))
 (aA (gH (ai 3))
 aH)))))))
noncomputable def io:DC:=jm (bdPos [0]) lB
noncomputable def lA:DS:=
 (aA (kg (cG A7 (cX (b4 cT 5) (ai 0)) (aQ .none))
 (aA (λz z z z=>False)
 aH)
 aH)
 (aA (gH (BV (aZ (iZ λa b=>decide (a<b)) (cX (b4 cT 12) (ai 0)) (cX (b4 cT 11) (ai 0))) (aT Bi (av (cX (b4 cT 5) (ai 0)) aF))))
 aH))
noncomputable def fk:DC:=jm (bdPos [0]) lA
noncomputable def jK:DS:=
 (aA (bB (aZ bw (ai 13) (ai 23)) (aG 24))
 (aA (vL (iy cN 1) (k8 cN 1) (mj (·- ·)) (ai 24) (aQ (.int 1)))
 (aA (kg (cG pX (cX (iy cN 1) (ai 24)) (aQ (.int 0)))
 (aA (jk (bX gJ ff (cX (b4 cT 5) (ai 0)) (av (ai 23) aF)))
 aH)
 aH)
 aH)))
noncomputable def jJ:DS:=
 (aA (zP 7 (bX qz xp (ai 13) (av (ai 1) aF)) (aA (λz z z z=>False)
 aH) aH)
 (aA (bB (cX (iy cN 1) (ai 7)) (aG 22))
 (aA (kg (cG q9 (ai 22) (aQ (.int (-1))))
 (aA (kg (cG (iZ λa b=>decide (b≤a)) (ai 22) (aQ (.int 0)))
 (aA (λz z z z=>False)
 aH)
 (aA (kg (cG pX (ai 22) (aQ (.int (-2))))
 (aA (λz z z z=>False)
 aH)
 (aA (λz z z z=>False)
 aH))
 aH))
 aH)
 aH)
 (aA (bB (aQ (.int (-2))) (jE (k8 cN 1) (ai 7)))
 (aA (i8 (cX (iy cN 2) (ai 7)) (aG 23)
 jK)
 (aA (vL (b4 cT 12) (go cT 12) (mj (·+·)) (ai 0) (aQ (.int 1)))
 aH))))))
noncomputable def qW:DS:=
 (aA (kg (cG A7 (cX (b4 cT 5) (ai 0)) (aQ .none))
 (aA (λz z z z=>False)
 aH)
 aH)
 (aA (bB (cX (b4 cT 2) (ai 0)) (aG 13))
 (aA (i8 (ai 21) (aG 1)
 jJ)
 aH)))
noncomputable def lN:DC:=jm (bdStar1 0 21) qW
noncomputable def fg:DS:=
 (aA (kg (cG pX (ai 33) (ai 27))
 (aA (bB (aZ ef (ai 31) (aQ (.int 1))) (aG 31))
 (aA (bB (aZ ef (ai 30) (aQ (.int 1))) (aG 30))
 aH))
 (aA (kg (cG pX (ai 33) (ai 28))
 (aA (bB (aZ ef (ai 31) (aQ (.int 1))) (aG 31))
 (aA (bB (aZ ef (ai 32) (aQ (.int 1))) (aG 32))
 (aA (kg (cG (iZ λa b=>decide (b≤a)) (ai 30) (aT d9 (av (ai 29) aF)))
 (aA (bB (aZ xI (ai 29) (aZ kG (jS (av (aQ (.int 0)) aF)) (aZ ef (aZ (mj (·- ·)) (ai 30) (aT d9 (av (ai 29) aF))) (aQ (.int 1))))) (aG 29))
 aH)
 aH)
 (aA (bB (aZ ef (aZ bw (ai 29) (ai 30)) (aQ (.int 1))) (pf (ai 29) (ai 30)))
 (aA (bB (aQ (.int 0)) (aG 30))
 aH)))))
 (aA sK
 aH))
 aH))
 aH)
noncomputable def jP:DS:=
 (aA (bB (ai 25) (jE (go cW 26) (ai 0)))
 (aA (xv 27 28 (mh (av (aQ (.str [32])) (av (aQ (.str [9])) aF))))
 (aA (bB (mi aF) (aG 29))
 (aA (xx (aQ (.int 0)) (aG 30) (aG 31) (aG 32))
 (aA (i8 (cX (b4 cW 26) (ai 0)) (aG 33)
 fg)
 (aA (bB (ai 31) (jE (go cW 31) (ai 0)))
 (aA (bB (ai 32) (jE (go cW 32) (ai 0)))
 (aA (bB (mh (av (aT sQ (av (ai 29) aF)) (av (ai 30) aF))) (jE (go cW 34) (ai 0)))
 (aA (bB (aZ (iZ λa b=>decide (a≤b)) (aT d9 (av (ai 29) aF)) (aQ (.int 1))) (jE (go cW 35) (ai 0)))
 aH)))))))))
noncomputable def dU:DC:=jm (bdPos [0,25]) jP
noncomputable def eC:DS:=
 (aA (bB (cX (b4 cW 34) (ai 0)) (lS ([29,36].map aG)))
 (aA (gH (aT qB (av (aZ (mj (·- ·)) (aT d9 (av (ai 29) aF)) (aQ (.int 1))) (av (ai 36) aF))))
 aH))
noncomputable def aR:DC:=jm (bdPos [0]) eC
noncomputable def d2:DS:=
 (aA (bB (aZ ef (ai 38) (aZ kG (aZ xr (ai 18) (ai 37)) (aZ bw (ai 29) (ai 18)))) (aG 38))
 aH)
noncomputable def gy:DS:=
 (aA (bB (cX (b4 cW 34) (ai 0)) (lS ([29,36].map aG)))
 (aA (bB (aQ (.int 0)) (aG 38))
 (aA (i8 (aT iI (av (ai 37) (av (aT d9 (av (ai 29) aF)) aF))) (aG 18)
 d2)
 (aA (gH (aZ ef (ai 36) (aZ kG (ai 37) (aZ ef (ai 38) (cX (b4 cW 32) (ai 0))))))
 aH))))
noncomputable def aY:DC:=jm (bdPos [0,37]) gy
noncomputable def dX:DS:=
 (aA (kg (cG (iZ λa b=>decide (b≤a)) (bX (cY cW 42) aY (ai 0) (av (ai 41) aF)) (bX (cY cW 42) aY (ai 39) (av (ai 41) aF)))
 (aA (gH (aQ (.bool false)))
 aH)
 aH)
 aH)
noncomputable def jO:DS:=
 (aA (kg (cG (iZ λa b=>decide (b≤a)) (cX (b4 cW 31) (ai 0)) (cX (b4 cW 31) (ai 39)))
 (aA (gH (aQ (.bool false)))
 aH)
 aH)
 (aA (kg (i7 (me (cX (b4 cW 35) (ai 0))) (i7 (me (cX (b4 cW 35) (ai 39))) (λQ z z hp=>Q true hp)))
 (aA (gH (aZ (iZ λa b=>decide (a≤b)) (cX (b4 cW 32) (ai 0)) (cX (b4 cW 32) (ai 39))))
 aH)
 aH)
 (aA (bB (aZ ef (aT qB (av (bX (cY cW 40) aR (ai 0) aF) (av (bX (cY cW 40) aR (ai 39) aF) aF))) (aQ (.int 1))) (aG 31))
 (aA (i8 (aT iI (av (aQ (.int 2)) (av (aZ ef (ai 31) (aQ (.int 1))) aF))) (aG 41)
 dX)
 (aA (gH (aQ (.bool true)))
 aH)))))
noncomputable def fQ:DC:=jm (bdPos [0,39]) jO
noncomputable def cO:DS:=
 (aA (kg (cG (iZ λa b=>decide (b≤a)) (bX (cY cW 42) aY (ai 0) (av (ai 41) aF)) (bX (cY cW 42) aY (ai 39) (av (ai 41) aF)))
 (aA (jk (bX gJ ff (ai 43) (av (mh (av (ai 41) (av (bX (cY cW 42) aY (ai 0) (av (ai 41) aF)) (av (bX (cY cW 42) aY (ai 39) (av (ai 41) aF)) aF)))) aF)))
 aH)
 aH)
 aH)
noncomputable def fu:DS:=
 (aA (bB (aZ ef (aT qB (av (bX (cY cW 40) aR (ai 0) aF) (av (bX (cY cW 40) aR (ai 39) aF) aF))) (aQ (.int 1))) (aG 31))
 (aA (bB (mi aF) (aG 43))
 (aA (i8 (aT iI (av (aQ (.int 1)) (av (aZ ef (ai 31) (aQ (.int 1))) aF))) (aG 41)
 cO)
 (aA (gH (xq 43))
 aH))))
noncomputable def cU:DC:=jm (bdPos [0,39]) fu
noncomputable def kD:DS:=
 (aA (bB (aZ xr (ai 44) (aQ (.int 10))) (aG 44))
 (aA (bB (aZ ef (aZ ef (ai 45) (aZ kG (aQ (.str [32])) (aZ oz (aZ oz (ai 44) (aQ (.int 10))) (aQ (.int 5))))) (aQ (.str [9]))) (aG 45))
 aH))
noncomputable def pP:DS:=
 (aA (bB (aQ (.str [])) (aG 45))
 (aA (bB (aZ oz (aZ oz (ai 44) (aQ (.int 10))) (aQ (.int 4))) (aG 46))
 (aA (i8 (aT cJ (av (ai 46) aF)) (aG 47)
 kD)
 (aA (gH (aZ ef (aZ ef (ai 45) (aZ kG (aQ (.str [32])) (aZ oz (aZ oz (aZ xr (ai 44) (aQ (.int 10))) (aQ (.int 10))) (aQ (.int 5))))) (aQ (.str [120,32,9]))))
 aH))))
noncomputable def jt:DC:=jm (bdPos [44]) pP
noncomputable def jy:DS:=
 (aA (bB (BW (cG pX (ai 50) (aQ (.str [32]))) (aZ ef (ai 49) (aQ (.int 1))) (aZ ef (aZ (mj (·- ·)) (ai 49) (aZ oz (ai 49) (ai 48))) (ai 48))) (aG 49))
 aH)
noncomputable def m6:DS:=
 (aA (bB (aQ (.int 0)) (aG 49))
 (aA (i8 (aZ bw (bX isStr lm (ai 45) (av (aQ (.str [120])) aF)) (aQ (.int 0))) (aG 50)
 jy)
 (aA (gH (ai 49))
 aH)))
noncomputable def ij:DC:=jm (bdPos [45,48]) m6
noncomputable def im:DS:=
 (aA (bB (cI [53,55,51] (kP (ai 53) (aQ .none) (ai 55) (aQ .none)) (aG 56) fNone (qe (kP (ai 53) (ai 55) (aQ .none) (aQ .none)) (aG 57) fNone (u4 (aT sP (av (aZ bw (ai 51) (ai 56)) (av (aZ bw (ai 51) (ai 57)) aF))) (lS ([58,59].map aG)) (cG (iZ λa b=>decide (b≤a)) (ai 58) (ai 59)) (dJ (aQ (.int 1)))))) (aG 60))
 (aA (kg (cG pX (ai 60) (jS aF))
 (aA (jk (bX gJ ff (ai 54) (av (ai 55) aF)))
 aH)
 aH)
 aH))
noncomputable def m7:DS:=
 (aA (bB (cI [] (aT yd (av (cI [51] (aT cJ (av (aT d9 (av (ai 51) aF)) aF)) (aG 52) fNone (dJ (mh (av (aZ bw (aZ bw (ai 51) (ai 52)) (aQ (.int 0))) (av (ai 52) aF))))) aF)) (lS ([49,52].map aG)) fNone (dJ (ai 52))) (aG 53))
 (aA (bB (mi aF) (aG 54))
 (aA (i8 (aT cJ (av (aZ ef (aT d9 (av (ai 53) aF)) (aQ (.int 1))) aF)) (aG 55)
 im)
 (aA (gH (cI [53,54] (aT cJ (av (aZ (mj (·- ·)) (aT d9 (av (ai 54) aF)) (aQ (.int 1))) aF)) (aG 61) fNone (dJ (aT lr (av (kP (ai 53) (aZ bw (ai 54) (ai 61)) (aZ bw (ai 54) (aZ ef (ai 61) (aQ (.int 1)))) (aQ .none)) aF)))))
 aH))))
noncomputable def ik:DC:=jm (bdPos [51]) m7
noncomputable def ma:DS:=
 (aA (bB (aT Bh (av (cI [] (ai 64) (aG 45) fNone (qe (bX isStr lm (aZ bw (bX isStr lm (ai 45) (av (aQ (.str [120])) aF)) (aQ (.int 0))) (av (aQ (.str [9])) aF)) (aG 47) fNone (dJ (aT d9 (av (ai 47) aF))))) aF)) (aG 65))
 (aA (bB (aT Bf (av (aT iI (av (aQ (.int 1)) (av (aZ ef (ai 65) (aQ (.int 2))) aF))) (av (ai 62) (av (ai 63) aF)))) (aG 66))
 (aA (gH (ui [] (ai 66) (lS ([48,58,59].map aG)) (cG (iZ λa b=>decide (b≤a)) (ai 58) (ai 59)) (dJ (mh (av (ai 48) (av (ai 58) (av (ai 59) aF)))))))
 aH)))
noncomputable def iK:DC:=jm (bdPos [62,63,64]) ma
noncomputable def kE:DS:=
 (aA (jk (bX gJ ff (ai 76) (av (ai 74) aF)))
 (aA (bB (aZ bw (cI [72] (aZ bw (ai 71) (ai 74)) (aG 70) (cG p9 (ai 70) (ai 72)) (dJ (ai 70))) (aQ (.int 0))) (aG 74))
 aH))
noncomputable def jc:DS:=
 (aA (bB (cI [71,72] (ai 72) (aG 74) (cG q9 (cI [72] (aZ bw (ai 71) (ai 74)) (aG 70) (cG p9 (ai 70) (ai 72)) (dJ (ai 70))) (jS aF)) (dJ (ai 74))) (aG 72))
 aH)
noncomputable def pQ:DS:=
 (aA (bB (aT d9 (av (ai 67) aF)) (aG 68))
 (aA (bB (cI [68,67] (aT cJ (av (ai 68) aF)) (aG 69) fNone (dJ (cI [69,67] (aT cJ (av (ai 68) aF)) (aG 70) (cG p9 (ai 69) (aZ bw (ai 67) (ai 70))) (dJ (ai 70))))) (aG 71))
 (aA (bB (aT rD (av (aT cJ (av (ai 68) aF)) aF)) (aG 72))
 (aA (i8 (aT cJ (av (ai 68) aF)) (aG 73)
 jc)
 (aA (bB (cI [67,72] (aT cJ (av (ai 68) aF)) (aG 70) fNone (qe (aZ ef (jS (av (ai 70) aF)) (aZ bw (ai 67) (ai 70))) (aG 74) (cG p9 (ai 74) (ai 72)) (dJ (ai 74)))) (aG 75))
 (aA (kg (cG pX (ai 75) (jS aF))
 (aA (gH (aQ .none))
 aH)
 aH)
 (aA (bB (mi aF) (aG 76))
 (aA (bB (aZ bw (ai 75) (aQ (.int 0))) (aG 74))
 (aA (mm (cG i2 (ai 74) (ai 76))
 kE
 aH)
 (aA (gH (aZ ef (kP (ai 76) (bX gJ ye (ai 76) (av (ai 74) aF)) (aQ .none) (aQ .none)) (jS (av (ai 74) aF))))
 aH))))))))))
noncomputable def ju:DC:=jm (bdPos [67]) pQ
noncomputable def iJ:DS:=
 (aA (jk (bX gJ ff (ai 82) (av (bX (cY cT 84) io (ai 77) aF) aF)))
 (aA (jk (bX (cY cT 85) lN (ai 77) (sR (aZ bw (ai 82) (zS (aQ (.int 1)))) aF)))
 aH))
noncomputable def jY:DS:=
 (aA (jk (bX (cY cT 78) m0 (ai 77) (av (ai 74) (sR (aZ bw (ai 67) (ai 74)) aF))))
 aH)
noncomputable def ot:DS:=
 (aA (bB (aT (xF cT lM) aF) (aG 77))
 (aA (i8 (aT cJ (av (aT d9 (av (ai 67) aF)) aF)) (aG 74)
 jY)
 (aA (bB (bX (cY cT 19) d3 (ai 77) aF) (aG 79))
 (aA (bB (aQ (.bool false)) (aG 80))
 (aA (zO 1
 (aA (jk (bX (cY cT 81) jd (ai 77) aF))
 aH)
 (aA (bB (aQ (.bool true)) (aG 80))
 aH))
 (aA (bB (mi aF) (aG 82))
 (aA (mm (i7 (me (bX (cY cT 83) fk (ai 77) aF)) (i7 (cG (iZ λa b=>decide (a≤b)) (aT d9 (av (ai 82) aF)) (aT d9 (av (ai 67) aF))) (λQ z z hp=>Q true hp)))
 iJ
 aH)
 (aA (gH (mh (av (ai 79) (av (ai 80) (av (xq 82) aF)))))
 aH))))))))
noncomputable def jL:DC:=jm (bdPos [67]) ot
noncomputable def oZ:DS:=
 (aA (kg (cG i2 (ai 100) (ai 96))
 (aA sK
 aH)
 aH)
 (aA (jk (bX gJ ff (ai 99) (av (mh (av (bX gJ vp (ai 96) (av (ai 100) aF)) aF)) aF)))
 aH))
noncomputable def mR:DS:=
 (aA (bB (cI [96] (ai 89) (aG 52) fNone (dJ (aZ bw (cI [52,96] (aT cJ (av (aT d9 (av (ai 96) aF)) aF)) (aG 61) (cG p9 (ai 52) (aZ bw (ai 96) (ai 61))) (dJ (ai 61))) (aQ (.int 0))))) (aG 98))
 (aA (bB (cI [90,98] (aT cJ (av (aT d9 (av (ai 96) aF)) aF)) (aG 61) fNone (dJ (cI [98,61] (ai 90) (lS ([56,57].map aG)) (i7 (cG pX (aZ bw (ai 98) (ai 57)) (ai 61)) (i7 (cG q9 (aZ bw (ai 98) (ai 56)) (ai 61)) (λQ z z hp=>Q true hp))) (dJ (aZ bw (ai 98) (ai 56)))))) (aG 67))
 (aA (bB (aT jL (av (ai 67) aF)) (lS ([79,80,82].map aG)))
 (aA (bB (mi aF) (aG 99))
 (aA (i8 (ai 95) (aG 100)
 oZ)
 (aA (kg (xf (cG q9 (ai 82) (ai 99)) (xf (cG jq (ai 80) (aZ jq (ai 79) (aQ .none))) (xf (cG q9 (ai 79) (aT ju (av (ai 67) aF))) (λQ z z hp=>Q false hp))))
 (aA (gH (aQ (.bool false)))
 aH)
 aH)
 (aA (kg (cG A7 (ai 79) (aQ .none))
 (aA (gH (aZ pX (aT d9 (av (ai 99) aF)) (aT d9 (av (ai 95) aF))))
 aH)
 aH)
 (aA (bB (aT lr (av (cI [96] (kP (ai 79) (aQ (.int 1)) (aQ .none) (aQ .none)) (aG 61) fNone (qe (aZ bw (ai 96) (ai 61)) (aG 52) fNone (dJ (ai 52)))) aF)) (aG 101))
 (aA (bB (aZ ef (cI [96,79] (aT cJ (av (aT d9 (av (ai 96) aF)) aF)) (aG 61) (cG i2 (ai 61) (ai 79)) (dJ (aZ bw (ai 96) (ai 61)))) (jS (av (ai 101) aF))) (aG 96))
 aH)))))))))
noncomputable def oY:DS:=
 (aA (kg (i7 (cG (iZ λa b=>decide (a<b)) (ai 56) (ai 57)) (i7 (cG pX (ai 87) (aQ (.int 5))) (λQ z z hp=>Q true hp)))
 (aA (bB (bX (cY cW 91) fQ (aZ bw (ai 88) (ai 57)) (av (aZ bw (ai 88) (ai 56)) aF)) (aG 92))
 (aA (kg (i7 (cG jq (ai 92) (aQ (.bool true))) (i7 (cG jq (ai 92) (aQ (.bool false))) (λQ z z hp=>Q true hp)))
 (aA (gH (aQ (.bool false)))
 aH)
 aH)
 (aA (kg (cG A7 (ai 92) (aQ (.bool false)))
 (aA (jk (bX gJ ff (ai 90) (av (mh (av (ai 56) (av (ai 57) aF))) aF)))
 aH)
 aH)
 aH)))
 (aA (kg (cG q9 (ai 56) (ai 57))
 (aA (bB (bX (cY cW 93) cU (aZ bw (ai 88) (ai 57)) (av (aZ bw (ai 88) (ai 56)) aF)) (aG 94))
 (aA (kg (cG q9 (ai 94) (aT iK (av (aZ bw (ai 51) (ai 57)) (av (aZ bw (ai 51) (ai 56)) (av (jS (av (aZ bw (ai 64) (ai 57)) (av (aZ bw (ai 64) (ai 56)) aF))) aF)))))
 (aA (gH (aQ (.bool false)))
 aH)
 aH)
 (aA (kg (cG q9 (cI [87] (ai 94) (lS ([48,58,59].map aG)) (cG (iZ λa b=>decide (a≤b)) (ai 48) (ai 87)) (dJ (ai 48))) (jS aF))
 (aA (jk (bX gJ ff (ai 90) (av (mh (av (ai 56) (av (ai 57) aF))) aF)))
 aH)
 aH)
 aH)))
 aH)
 aH))
 aH)
noncomputable def oX:DS:=
 (aA (i8 (ai 89) (aG 57)
 oY)
 aH)
noncomputable def Bo:DS:=
 (aA (bB (aZ (mj (·- ·)) (aQ (.int 5)) (aZ oz (aT BS (av (ai 86) aF)) (aQ (.int 5)))) (aG 87))
 (aA (bB (cI [] (aZ ef (jS (av (aQ (.int 12)) (av (aQ (.int 20)) (av (aQ (.int 1)) (av (aQ (.int 0)) aF))))) (kP (ai 86) (aQ .none) (aQ (.int 2)) (aQ .none))) (aG 44) fNone (dJ (aT jt (av (ai 44) aF)))) (aG 64))
 (aA (bB (cI [] (ai 64) (aG 45) fNone (dJ (aT (pz cW dU) (av (ai 45) aF)))) (aG 88))
 (aA (bB (aT rD (av (aT cJ (av (aT d9 (av (ai 64) aF)) aF)) aF)) (aG 89))
 (aA (bB (cI [] (ai 64) (aG 45) fNone (dJ (cI [45] (aT iI (av (aQ (.int 1)) (av (aQ (.int 6)) aF))) (aG 48) fNone (dJ (aT ij (av (ai 45) (av (ai 48) aF))))))) (aG 51))
 (aA (bB (mi aF) (aG 90))
 (aA (i8 (ai 89) (aG 56)
 oX)
 (aA (bB (aT ik (av (cI [87] (ai 51) (aG 49) fNone (dJ (kP (ai 49) (aQ .none) (ai 87) (aQ .none)))) aF)) (aG 95))
 (aA (bB (cI [] (ai 89) (aG 52) fNone (dJ (jS (av (ai 52) aF)))) (aG 96))
 (aA (i8 (ai 89) (aG 97)
 mR)
 (aA (gH (aQ (.bool false)))
 aH)))))))))))
noncomputable def xJ:DC:=jm (bdPos [86]) Bo
noncomputable abbrev bR:List Stmt:=PySem.Challenge.pw_mr0354_02.main.body
noncomputable def Gu:List Str:=[ah "self",ah "node",ah "_node2info",ah "result",ah "predecessors",ah "_ready_nodes",ah "_get_nodeinfo",ah "nodeinfo",ah "pred",ah "pred_info",ah "graph",ah "_npassedout",ah "_nfinished",ah "n2i",ah "stack",ah "itstack",ah "seen",ah "node2stacki",ah "i",ah "_find_cycle",ah "cycle",ah "nodes",ah "stat",ah "successor",ah "successor_info",ah "ws",ah "raw",ah "S",ah "T",ah "count",ah "b",ah "n",ah "nt",ah "ch",ah "norm",ah "is_simple",ah "trailing",ah "tabsize",ah "il",ah "other",ah "longest_run_of_spaces",ah "ts",ah "indent_level",ah "a",ah "number",ah "text",ah "rows",ah "row",ah "size",ah "column",ah "sign",ah "columns",ah "place",ah "order",ah "cuts",ah "cut",ah "one",ah "two",ah "here",ah "there",ah "torn",ah "k",ah "first",ah "second",ah "texts",ah "longest",ah "told",ah "heads",ah "many",ah "early",ah "late",ah "follow",ah "left",ah "turn",ah "group",ah "named",ah "trail",ah "sorter",ah "add",ah "ring",ah "raised",ah "prepare",ah "rounds",ah "is_active",ah "get_ready",ah "done",ah "script",ah "top",ah "leads",ah "places",ah "steps",ah "less",ah "answer",ah "not_less_witness",ah "listed",ah "blocks",ah "groups",ah "stage",ah "home",ah "due",ah "block",ah "melted"]
noncomputable def iG:Nat→Str:=nmOf Gu
noncomputable abbrev P1(w:d5)(H:Heap)(K:Frag):dH:=⟨iG,PySem.Challenge.pw_mr0354_02,w,H,K⟩
structure jn(w:d5)(H:Heap)(K:Frag)(mg mb:Str→Option Value):Prop where
 tp:eL (P1 w H K) mg mb
 hz:(H.get? sysModules).isSome=true
 hset:C8 "member_descriptor" "__set__" "member_descriptor.__set__"
 at__NodeInfo_node:A8 K 40 "node" 0
 at__NodeInfo_npredecessors:A8 K 40 "npredecessors" 1
 at__NodeInfo_successors:A8 K 40 "successors" 2
 fn_NodeInfo_init:cE (P1 w H K) 36 (bV (dO (bV bR 4)) 1) (bdPos [0,1])
 at_TS__node2info:sH K 137 "_node2info"
 mk__NodeInfo:MakeF K 40 36
 kp__NodeInfo:keepIn K (.ref 40)=true
 g__NodeInfo:mg "_NodeInfo" =some (.ref 40)
 fn_TS__get_nodeinfo:cE (P1 w H K) 80 (bV (dO (bV bR 6)) 1) (bdPos [0,1])
 at_TS__ready_nodes:sH K 137 "_ready_nodes"
 mt_TS__get_nodeinfo:nA K 137 "_get_nodeinfo" 80
 kp_TS__get_nodeinfo:keepIn K (.ref 80)=true
 b_len:mb "len" =some (.builtin "len")
 n_len:mg "len" =ae
 fn_TS_add:cE (P1 w H K) 87 (bV (dO (bV bR 6)) 2) (lI 0 1 4)
 at_TS__npassedout:sH K 137 "_npassedout"
 at_TS__nfinished:sH K 137 "_nfinished"
 fn_TS_init:cE (P1 w H K) 73 (bV (dO (bV bR 6)) 0) (nJ 0 10)
 b_set:mb "set" =some (.type "set")
 n_set:mg "set" =ae
 b_iter:mb "iter" =some (.builtin "iter")
 n_iter:mg "iter" =ae
 mat0:zN (P1 w H K) (hP "StopIteration") (hP "StopIteration")
 b_StopIteration:mb "StopIteration" =some (.type "StopIteration")
 n_StopIteration:mg "StopIteration" =ae
 fn_TS__find_cycle:cE (P1 w H K) 127 (bV (dO (bV bR 6)) 8) (bdPos [0])
 mt_TS__find_cycle:nA K 137 "_find_cycle" 127
 kp_TS__find_cycle:keepIn K (.ref 127)=true
 own_CE:EU "CycleError" 55 [.type "ValueError",.type "Exception",.type "BaseException",.type "object"] "ValueError.__new__" mg H
 g_CycleError:mg "CycleError" =some (.ref 55)
 fn_TS_prepare:cE (P1 w H K) 92 (bV (dO (bV bR 6)) 3) (bdPos [0])
 b_tuple:mb "tuple" =some (.type "tuple")
 n_tuple:mg "tuple" =ae
 g__NODE_OUT:∃t,mg "_NODE_OUT" =some (.int (-1) t)
 fn_TS_get_ready:cE (P1 w H K) 99 (bV (dO (bV bR 6)) 4) (bdPos [0])
 b_bool:mb "bool" =some (.type "bool")
 n_bool:mg "bool" =ae
 fn_TS_is_active:cE (P1 w H K) 106 (bV (dO (bV bR 6)) 5) (bdPos [0])
 g__NODE_DONE:∃t,mg "_NODE_DONE" =some (.int (-2) t)
 fn_TS_done:cE (P1 w H K) 120 (bV (dO (bV bR 6)) 7) (bdStar1 0 21)
 at_Whitespace_raw:sH K 203 "raw"
 ca_Whitespace_S:∃tk,findCls K (.ref 203) (.type "type") "S" =some (.val (.str ⟨([32]:List Nat).toArray⟩ tk))
 rd_Whitespace:readsIn K 203 (.type "type")=true
 g_Whitespace:mg "Whitespace" =some (.ref 203)
 ca_Whitespace_T:∃tk,findCls K (.ref 203) (.type "type") "T" =some (.val (.str ⟨([9]:List Nat).toArray⟩ tk))
 at_Whitespace_n:sH K 203 "n"
 at_Whitespace_nt:sH K 203 "nt"
 at_Whitespace_norm:sH K 203 "norm"
 at_Whitespace_is_simple:sH K 203 "is_simple"
 fn_Whitespace_init:cE (P1 w H K) 158 (bV (dO (bV bR 8)) 1) (bdPos [0,25])
 b_max:mb "max" =some (.builtin "max")
 n_max:mg "max" =ae
 fn_Whitespace_longest_run_of_spaces:cE (P1 w H K) 165 (bV (dO (bV bR 8)) 2) (bdPos [0])
 b_range:mb "range" =some (.type "range")
 n_range:mg "range" =ae
 fn_Whitespace_indent_level:cE (P1 w H K) 172 (bV (dO (bV bR 8)) 3) (bdPos [0,37])
 mt_Whitespace_longest_run_of_spaces:nA K 203 "longest_run_of_spaces" 165
 kp_Whitespace_longest_run_of_spaces:keepIn K (.ref 165)=true
 mt_Whitespace_indent_level:nA K 203 "indent_level" 172
 kp_Whitespace_indent_level:keepIn K (.ref 172)=true
 fn_Whitespace_less:cE (P1 w H K) 193 (bV (dO (bV bR 8)) 6) (bdPos [0,39])
 fn_Whitespace_not_less_witness:cE (P1 w H K) 200 (bV (dO (bV bR 8)) 7) (bdPos [0,39])
 fn_law_text:cE (P1 w H K) 214 (bV bR 10) (bdPos [44])
 fn_law_column:cE (P1 w H K) 221 (bV bR 11) (bdPos [45,48])
 b_sorted:mb "sorted" =some (.builtin "sorted")
 n_sorted:mg "sorted" =ae
 b_zip:mb "zip" =some (.type "zip")
 n_zip:mg "zip" =ae
 fn_law_blocks:cE (P1 w H K) 226 (bV bR 12) (bdPos [51])
 fn_law_witness:cE (P1 w H K) 231 (bV bR 13) (bdPos [62,63,64])
 b_list:mb "list" =some (.type "list")
 n_list:mg "list" =ae
 fn_law_ring:cE (P1 w H K) 236 (bV bR 14) (bdPos [67])
 mk_TS:MakeF K 137 73
 kp_TS:keepIn K (.ref 137)=true
 g_TS:mg "TopologicalSorter" =some (.ref 137)
 mt_TS_add:nA K 137 "add" 87
 sg_TS_add:specialIn K (.ref 87) "__get__" =some (some (.builtin "function.__get__"))
 tk_TS_add:takesIn K (.ref 87)=some false
 ci_TS:(clsIn K 137).isSome=true
 fi_TS_add:fnIn K 87=true
 mt_TS_prepare:nA K 137 "prepare" 92
 kp_TS_prepare:keepIn K (.ref 92)=true
 mat1:zN (P1 w H K) (dK 55) (dK 55)
 mt_TS_is_active:nA K 137 "is_active" 106
 kp_TS_is_active:keepIn K (.ref 106)=true
 mt_TS_get_ready:nA K 137 "get_ready" 99
 kp_TS_get_ready:keepIn K (.ref 99)=true
 mt_TS_done:nA K 137 "done" 120
 sg_TS_done:specialIn K (.ref 120) "__get__" =some (some (.builtin "function.__get__"))
 tk_TS_done:takesIn K (.ref 120)=some false
 fi_TS_done:fnIn K 120=true
 fn_law_stage:cE (P1 w H K) 243 (bV bR 15) (bdPos [67])
 b_sum:mb "sum" =some (.builtin "sum")
 n_sum:mg "sum" =ae
 kp_law_text:keepIn K (.ref 214)=true
 g__law_text:mg "_law_text" =some (.ref 214)
 mk_Whitespace:MakeF K 203 158
 kp_Whitespace:keepIn K (.ref 203)=true
 kp_law_column:keepIn K (.ref 221)=true
 g__law_column:mg "_law_column" =some (.ref 221)
 mt_Whitespace_less:nA K 203 "less" 193
 kp_Whitespace_less:keepIn K (.ref 193)=true
 mt_Whitespace_not_less_witness:nA K 203 "not_less_witness" 200
 kp_Whitespace_not_less_witness:keepIn K (.ref 200)=true
 kp_law_witness:keepIn K (.ref 231)=true
 g__law_witness:mg "_law_witness" =some (.ref 231)
 kp_law_blocks:keepIn K (.ref 226)=true
 g__law_blocks:mg "_law_blocks" =some (.ref 226)
 kp_law_stage:keepIn K (.ref 243)=true
 g__law_stage:mg "_law_stage" =some (.ref 243)
 kp_law_ring:keepIn K (.ref 236)=true
 g__law_ring:mg "_law_ring" =some (.ref 236)
 fn_law:cE (P1 w H K) 248 (bV bR 16) (bdPos [86])
variable{w:d5}{H:Heap}{K:Frag}{ex:Nat→Value}{mg mb:Str→Option Value}
theorem inj1:∀i j,iG i=iG j→i=j:=Cf _ (by decide+kernel)
set_option maxHeartbeats 4000000 in
theorem oH(F:jn w H K mg mb)(hex0:ex 0= .type "StopIteration")(hex1:ex 1= .ref 55):OkK (P1 w H K) (dy ex) 2 (.ref 36) gP:=
 OkK.fn (d:=1) (nm:=iG) rfl F.tp F.fn_NodeInfo_init (BdIds.pos _) (by kernel_rfl)
 (SimSs.cons (SimS.asg Sim.v (SimG.attr (OkSet.slot F.tp F.at__NodeInfo_node F.hset) Sim.v))
 (SimSs.cons (SimS.asg Sim.cInt (SimG.attr (OkSet.slot F.tp F.at__NodeInfo_npredecessors F.hset) Sim.v))
 (SimSs.cons (SimS.asg (Sim.new SimA.nil) (SimG.attr (OkSet.slot F.tp F.at__NodeInfo_successors F.hset) Sim.v))
 SimSs.nil)))
set_option maxHeartbeats 4000000 in
theorem mF(F:jn w H K mg mb)(hex0:ex 0= .type "StopIteration")(hex1:ex 1= .ref 55)(h_NodeInfo_init:OkK (P1 w H K) (dy ex) 2 (.ref 36) gP):OkK (P1 w H K) (dy ex) 4 (.ref 80) ew:=
 OkK.fn (d:=3) (nm:=iG) rfl F.tp F.fn_TS__get_nodeinfo (BdIds.pos _) (by kernel_rfl)
 (SimSs.cons (SimS.ifNamed inj1 (i:=3) rfl (by decide+kernel) (Sim.meth (Meth.dict PySem.F.slot_dict_get PySem.F.type_dict_get) (Sim.attr F.tp (i:=2) rfl F.at_TS__node2info Sim.v) (SimR.of (SimA.cons Sim.v SimA.nil)) (OkC.get F.hz) (KeepF.builtin _)) (SimSs.cons (SimS.asg2 (Sim.call (Sim.g F.tp (by kernel_rfl) F.g__NodeInfo) (SimR.of (SimA.cons Sim.v SimA.nil)) ((OkK.makeS F.tp F.mk__NodeInfo (h_NodeInfo_init)).up (by decide)).c (KeepF.inK F.tp.kin F.kp__NodeInfo)) (SimG.item (Sim.attr F.tp (i:=2) rfl F.at_TS__node2info Sim.v) Sim.v) (SimG.v inj1) (λz=>rfl) (λz=>rfl))
 SimSs.nil) SimSs.nil)
 (SimSs.cons (SimS.ret Sim.v)
 SimSs.nil))
set_option maxHeartbeats 4000000 in
theorem y1(F:jn w H K mg mb)(hex0:ex 0= .type "StopIteration")(hex1:ex 1= .ref 55)(h_TS__get_nodeinfo:OkK (P1 w H K) (dy ex) 4 (.ref 80) ew):OkK (P1 w H K) (dy ex) 5 (.ref 87) m0:=
 OkK.fn (d:=4) (nm:=iG) rfl F.tp F.fn_TS_add (BdIds.star2 _ _ _) (by kernel_rfl)
 (SimSs.cons (SimS.iff (SimT.cmp ok_isNot (Sim.attr F.tp (i:=5) rfl F.at_TS__ready_nodes Sim.v) Sim.cNone)
 (SimSs.cons SimS.never
 SimSs.nil)
 SimSs.nil)
 (SimSs.cons (SimS.asgN (i:=7) inj1 rfl (by kernel_rfl) (Sim.meth (Meth.own inj1 F.tp (j:=6) rfl F.mt_TS__get_nodeinfo) Sim.v (SimR.of (SimA.cons Sim.v SimA.nil)) ((h_TS__get_nodeinfo).up (by decide)).c (KeepF.inK F.tp.kin F.kp_TS__get_nodeinfo)) (λenv h=>by cases env;cases h;rfl))
 (SimSs.cons (SimS.aug (OkGet.slot F.tp F.at__NodeInfo_npredecessors) (OkSet.slot F.tp F.at__NodeInfo_npredecessors F.hset) ok_iadd Sim.v (Sim.call (Sim.b F.tp (by kernel_rfl) F.n_len F.b_len) (SimR.of (SimA.cons Sim.v SimA.nil)) (OkC.len F.hz) (KeepF.builtin _)))
 (SimSs.cons (SimS.for F.hz (by decide) Sim.v (SimG.v inj1)
 (SimSs.cons (SimS.asgN (i:=9) inj1 rfl (by kernel_rfl) (Sim.meth (Meth.own inj1 F.tp (j:=6) rfl F.mt_TS__get_nodeinfo) Sim.v (SimR.of (SimA.cons Sim.v SimA.nil)) ((h_TS__get_nodeinfo).up (by decide)).c (KeepF.inK F.tp.kin F.kp_TS__get_nodeinfo)) (λenv h=>by cases env;cases h;rfl))
 (SimSs.cons (SimS.exp (Sim.meth (Meth.list PySem.F.slot_list_append PySem.F.type_list_append) (Sim.slot F.tp F.at__NodeInfo_successors Sim.v) (SimR.of (SimA.cons Sim.v SimA.nil)) OkC.append (KeepF.builtin _)))
 SimSs.nil)) (λz z=>rfl) (eE 8))
 SimSs.nil))))
set_option maxHeartbeats 4000000 in
theorem wq(F:jn w H K mg mb)(hex0:ex 0= .type "StopIteration")(hex1:ex 1= .ref 55):OkK (P1 w H K) (dy ex) 2 (.ref 73) lM:=
 OkK.fn (d:=1) (nm:=iG) rfl F.tp F.fn_TS_init (BdIds.def1 _ _) (by kernel_rfl)
 (SimSs.cons (SimS.asg Sim.dict (SimG.attr (OkSet.dict inj1 F.tp (i:=2) rfl F.at_TS__node2info) Sim.v))
 (SimSs.cons (SimS.asg Sim.cNone (SimG.attr (OkSet.dict inj1 F.tp (i:=5) rfl F.at_TS__ready_nodes) Sim.v))
 (SimSs.cons (SimS.asg Sim.cInt (SimG.attr (OkSet.dict inj1 F.tp (i:=11) rfl F.at_TS__npassedout) Sim.v))
 (SimSs.cons (SimS.asg Sim.cInt (SimG.attr (OkSet.dict inj1 F.tp (i:=12) rfl F.at_TS__nfinished) Sim.v))
 (SimSs.cons (SimS.iff (SimT.cmp ok_isNot Sim.v Sim.cNone)
 (SimSs.cons SimS.never
 SimSs.nil)
 SimSs.nil)
 SimSs.nil)))))
set_option maxHeartbeats 4000000 in
theorem n6(F:jn w H K mg mb)(hex0:ex 0= .type "StopIteration")(hex1:ex 1= .ref 55):OkK (P1 w H K) (dy ex) 2 (.ref 127) d3:=
 OkK.fn (d:=1) (nm:=iG) rfl F.tp F.fn_TS__find_cycle (BdIds.pos _) (by kernel_rfl)
 (SimSs.cons (SimS.asgN (i:=13) inj1 rfl (by kernel_rfl) (Sim.attr F.tp (i:=2) rfl F.at_TS__node2info Sim.v) (λenv h=>by cases env;cases h;rfl))
 (SimSs.cons (SimS.asgN (i:=14) inj1 rfl (by kernel_rfl) (Sim.new SimA.nil) (λenv h=>by cases env;cases h;rfl))
 (SimSs.cons (SimS.asgN (i:=15) inj1 rfl (by kernel_rfl) (Sim.new SimA.nil) (λenv h=>by cases env;cases h;rfl))
 (SimSs.cons (SimS.asgN (i:=16) inj1 rfl (by kernel_rfl) (Sim.call (Sim.b F.tp (by kernel_rfl) F.n_set F.b_set) SimR.nil OkC.set0 (KeepF.type _)) (λenv h=>by cases env;cases h;rfl))
 (SimSs.cons (SimS.asgN (i:=17) inj1 rfl (by kernel_rfl) Sim.dict (λenv h=>by cases env;cases h;rfl))
 (SimSs.cons (SimS.for F.hz (by decide) Sim.v (SimG.v inj1)
 (SimSs.cons (SimS.iff (SimT.cmp (ok_in F.hz) Sim.v Sim.v)
 (SimSs.cons SimS.cont
 SimSs.nil)
 SimSs.nil)
 (SimSs.cons (SimS.while (SimT.val Sim.cBool (λz z=>rfl))
 (SimSs.cons (SimS.iff (SimT.cmp (ok_in F.hz) Sim.v Sim.v)
 (SimSs.cons (SimS.iff (SimT.cmp (ok_in F.hz) Sim.v Sim.v)
 (SimSs.cons (SimS.ret (Sim.bin ok_add (Sim.cut Sim.v (SimO.some (Sim.item Sim.v Sim.v (λz z=>⟨_,rfl⟩))) SimO.none SimO.none (λz z=>⟨_,rfl⟩)) (Sim.lst (SimA.cons Sim.v SimA.nil))))
 SimSs.nil)
 SimSs.nil)
 SimSs.nil)
 (SimSs.cons (SimS.exp (Sim.meth Meth.setAdd Sim.v (SimR.of (SimA.cons Sim.v SimA.nil)) OkC.add (KeepF.builtin _)))
 (SimSs.cons (SimS.exp (Sim.meth (Meth.list PySem.F.slot_list_append PySem.F.type_list_append) Sim.v (SimR.of (SimA.cons (Sim.getAttr OkGet.next (Sim.call (Sim.b F.tp (by kernel_rfl) F.n_iter F.b_iter) (SimR.of (SimA.cons (Sim.slot F.tp F.at__NodeInfo_successors (Sim.item Sim.v Sim.v (λz z=>⟨_,rfl⟩))) SimA.nil)) OkC.iter (KeepF.builtin _)) (λz=>rfl)) SimA.nil)) OkC.append (KeepF.builtin _)))
 (SimSs.cons (SimS.asg (Sim.call (Sim.b F.tp (by kernel_rfl) F.n_len F.b_len) (SimR.of (SimA.cons Sim.v SimA.nil)) (OkC.len F.hz) (KeepF.builtin _)) (SimG.item Sim.v Sim.v))
 (SimSs.cons (SimS.exp (Sim.meth (Meth.list PySem.F.slot_list_append PySem.F.type_list_append) Sim.v (SimR.of (SimA.cons Sim.v SimA.nil)) OkC.append (KeepF.builtin _)))
 SimSs.nil)))))
 (SimSs.cons (SimS.while (SimT.val Sim.v (λz z=>rfl))
 (SimSs.cons (SimS.try (SimSs.cons (SimS.asgN (i:=1) inj1 rfl (by kernel_rfl) (Sim.next (by decide) hex0 (Sim.item Sim.v (Sim.neg Sim.cInt) (λz z=>⟨_,rfl⟩)) (λz=>rfl)) (λenv h=>by cases env;cases h;rfl))
 (SimSs.cons SimS.brk
 SimSs.nil)) (NameIs.built F.tp (by kernel_rfl) (by kernel_rfl) F.n_StopIteration F.b_StopIteration) (hex0▸F.mat0) (SimSs.cons (SimS.del Sim.v (Sim.meth (Meth.list PySem.F.slot_list_pop PySem.F.type_list_pop) Sim.v SimR.nil OkC.pop (KeepF.builtin _)))
 (SimSs.cons (SimS.exp (Sim.meth (Meth.list PySem.F.slot_list_pop PySem.F.type_list_pop) Sim.v SimR.nil OkC.pop (KeepF.builtin _)))
 SimSs.nil)))
 SimSs.nil)
 (SimSs.cons SimS.brk
 SimSs.nil))
 SimSs.nil))
 SimSs.nil)
 SimSs.nil)) (λz z=>rfl) (eE 1))
 (SimSs.cons (SimS.ret Sim.cNone)
 SimSs.nil)))))))
set_option maxHeartbeats 4000000 in
theorem rZ(F:jn w H K mg mb)(hex0:ex 0= .type "StopIteration")(hex1:ex 1= .ref 55)(h_TS__find_cycle:OkK (P1 w H K) (dy ex) 2 (.ref 127) d3):OkK (P1 w H K) (dy ex) 3 (.ref 92) jd:=
 OkK.fn (d:=2) (nm:=iG) rfl F.tp F.fn_TS_prepare (BdIds.pos _) (by kernel_rfl)
 (SimSs.cons (SimS.iff (SimT.cmp ok_isNot (Sim.attr F.tp (i:=5) rfl F.at_TS__ready_nodes Sim.v) Sim.cNone)
 (SimSs.cons SimS.never
 SimSs.nil)
 SimSs.nil)
 (SimSs.cons (SimS.asg (Sim.compN F.hz (by decide) (fr:=[]) (.inl rfl) (bi.of (nm:=iG)) (Sim.meth (Meth.dict PySem.F.slot_dict_values PySem.F.type_dict_values) (Sim.attr F.tp (i:=2) rfl F.at_TS__node2info Sim.v) SimR.nil (OkC.values F.hz) (KeepF.builtin _)) (SimG.v inj1) (Tgt.var 18) (eM.one (SimT.cmp ok_eq (Sim.slot F.tp F.at__NodeInfo_npredecessors Sim.v) Sim.cInt)) (SimI.elt rfl (Sim.slot F.tp F.at__NodeInfo_node Sim.v)) (by decide+kernel) (λz z=>rfl)) (SimG.attr (OkSet.dict inj1 F.tp (i:=5) rfl F.at_TS__ready_nodes) Sim.v))
 (SimSs.cons (SimS.asgN (i:=20) inj1 rfl (by kernel_rfl) (Sim.meth (Meth.own inj1 F.tp (j:=19) rfl F.mt_TS__find_cycle) Sim.v SimR.nil ((h_TS__find_cycle).up (by decide)).c (KeepF.inK F.tp.kin F.kp_TS__find_cycle)) (λenv h=>by cases env;cases h;rfl))
 (SimSs.cons (SimS.iff (SimT.val Sim.v (λz z=>rfl))
 (SimSs.cons (SimS.raise (by decide) (NameIs.glob F.tp (by kernel_rfl) (by kernel_rfl) F.g_CycleError) F.own_CE PySem.F.excBase_ValueError hex1 (SimR.of (SimA.cons (Sim.joined1 (Sim.cStr (l:=[110,111,100,101,115,32,97,114,101,32,105,110,32,97,32,99,121,99,108,101]) (by decide+kernel))) (SimA.cons Sim.v SimA.nil))) (λz=>rfl))
 SimSs.nil)
 SimSs.nil)
 SimSs.nil))))
set_option maxHeartbeats 4000000 in
theorem pV(F:jn w H K mg mb)(hex0:ex 0= .type "StopIteration")(hex1:ex 1= .ref 55):OkK (P1 w H K) (dy ex) 2 (.ref 99) io:=
 OkK.fn (d:=1) (nm:=iG) rfl F.tp F.fn_TS_get_ready (BdIds.pos _) (by kernel_rfl)
 (SimSs.cons (SimS.iff (SimT.cmp ok_is (Sim.attr F.tp (i:=5) rfl F.at_TS__ready_nodes Sim.v) Sim.cNone)
 (SimSs.cons SimS.never
 SimSs.nil)
 SimSs.nil)
 (SimSs.cons (SimS.asgN (i:=3) inj1 rfl (by kernel_rfl) (Sim.call (Sim.b F.tp (by kernel_rfl) F.n_tuple F.b_tuple) (SimR.of (SimA.cons (Sim.attr F.tp (i:=5) rfl F.at_TS__ready_nodes Sim.v) SimA.nil)) OkC.tupL (KeepF.type _)) (λenv h=>by cases env;cases h;rfl))
 (SimSs.cons (SimS.asgN (i:=13) inj1 rfl (by kernel_rfl) (Sim.attr F.tp (i:=2) rfl F.at_TS__node2info Sim.v) (λenv h=>by cases env;cases h;rfl))
 (SimSs.cons (SimS.for F.hz (by decide) Sim.v (SimG.v inj1)
 (SimSs.cons (SimS.asg (Sim.globInt F.tp (by decide+kernel) (by decide+kernel) F.g__NODE_OUT) (SimG.attr (OkSet.slot F.tp F.at__NodeInfo_npredecessors F.hset) (Sim.item Sim.v Sim.v (λz z=>⟨_,rfl⟩))))
 SimSs.nil) (λz z=>rfl) (eE 1))
 (SimSs.cons (SimS.exp (Sim.meth (Meth.list PySem.F.slot_list_clear PySem.F.type_list_clear) (Sim.attr F.tp (i:=5) rfl F.at_TS__ready_nodes Sim.v) SimR.nil OkC.clear (KeepF.builtin _)))
 (SimSs.cons (SimS.aug (OkGet.dict F.tp (i:=11) rfl F.at_TS__npassedout) (OkSet.dict inj1 F.tp (i:=11) rfl F.at_TS__npassedout) ok_iadd Sim.v (Sim.call (Sim.b F.tp (by kernel_rfl) F.n_len F.b_len) (SimR.of (SimA.cons Sim.v SimA.nil)) (OkC.len F.hz) (KeepF.builtin _)))
 (SimSs.cons (SimS.ret Sim.v)
 SimSs.nil)))))))
set_option maxHeartbeats 4000000 in
theorem pU(F:jn w H K mg mb)(hex0:ex 0= .type "StopIteration")(hex1:ex 1= .ref 55):OkK (P1 w H K) (dy ex) 2 (.ref 106) fk:=
 OkK.fn (d:=1) (nm:=iG) rfl F.tp F.fn_TS_is_active (BdIds.pos _) (by kernel_rfl)
 (SimSs.cons (SimS.iff (SimT.cmp ok_is (Sim.attr F.tp (i:=5) rfl F.at_TS__ready_nodes Sim.v) Sim.cNone)
 (SimSs.cons SimS.never
 SimSs.nil)
 SimSs.nil)
 (SimSs.cons (SimS.ret (Sim.or2 (Sim.cmp ok_lt (Sim.attr F.tp (i:=12) rfl F.at_TS__nfinished Sim.v) (Sim.attr F.tp (i:=11) rfl F.at_TS__npassedout Sim.v) rfl) (Sim.call (Sim.b F.tp (by kernel_rfl) F.n_bool F.b_bool) (SimR.of (SimA.cons (Sim.attr F.tp (i:=5) rfl F.at_TS__ready_nodes Sim.v) SimA.nil)) OkC.bool (KeepF.type _))))
 SimSs.nil))
set_option maxHeartbeats 4000000 in
theorem wr(F:jn w H K mg mb)(hex0:ex 0= .type "StopIteration")(hex1:ex 1= .ref 55):OkK (P1 w H K) (dy ex) 2 (.ref 120) lN:=
 OkK.fn (d:=1) (nm:=iG) rfl F.tp F.fn_TS_done (BdIds.star1 _ _) (by kernel_rfl)
 (SimSs.cons (SimS.iff (SimT.cmp ok_is (Sim.attr F.tp (i:=5) rfl F.at_TS__ready_nodes Sim.v) Sim.cNone)
 (SimSs.cons SimS.never
 SimSs.nil)
 SimSs.nil)
 (SimSs.cons (SimS.asgN (i:=13) inj1 rfl (by kernel_rfl) (Sim.attr F.tp (i:=2) rfl F.at_TS__node2info Sim.v) (λenv h=>by cases env;cases h;rfl))
 (SimSs.cons (SimS.for F.hz (by decide) Sim.v (SimG.v inj1)
 (SimSs.cons (SimS.ifNamed inj1 (i:=7) rfl (by decide+kernel) (Sim.meth (Meth.dict PySem.F.slot_dict_get PySem.F.type_dict_get) Sim.v (SimR.of (SimA.cons Sim.v SimA.nil)) (OkC.get F.hz) (KeepF.builtin _)) (SimSs.cons SimS.never
 SimSs.nil) SimSs.nil)
 (SimSs.cons (SimS.asgN (i:=22) inj1 rfl (by kernel_rfl) (Sim.slot F.tp F.at__NodeInfo_npredecessors Sim.v) (λenv h=>by cases env;cases h;rfl))
 (SimSs.cons (SimS.iff (SimT.cmp ok_ne Sim.v (Sim.globInt F.tp (by decide+kernel) (by decide+kernel) F.g__NODE_OUT))
 (SimSs.cons (SimS.iff (SimT.cmp ok_ge Sim.v Sim.cInt)
 (SimSs.cons SimS.never
 SimSs.nil)
 (SimSs.cons (SimS.iff (SimT.cmp ok_eq Sim.v (Sim.globInt F.tp (by decide+kernel) (by decide+kernel) F.g__NODE_DONE))
 (SimSs.cons SimS.never
 SimSs.nil)
 (SimSs.cons SimS.never
 SimSs.nil))
 SimSs.nil))
 SimSs.nil)
 SimSs.nil)
 (SimSs.cons (SimS.asg (Sim.globInt F.tp (by decide+kernel) (by decide+kernel) F.g__NODE_DONE) (SimG.attr (OkSet.slot F.tp F.at__NodeInfo_npredecessors F.hset) Sim.v))
 (SimSs.cons (SimS.for F.hz (by decide) (Sim.slot F.tp F.at__NodeInfo_successors Sim.v) (SimG.v inj1)
 (SimSs.cons (SimS.asgN (i:=24) inj1 rfl (by kernel_rfl) (Sim.item Sim.v Sim.v (λz z=>⟨_,rfl⟩)) (λenv h=>by cases env;cases h;rfl))
 (SimSs.cons (SimS.aug (OkGet.slot F.tp F.at__NodeInfo_npredecessors) (OkSet.slot F.tp F.at__NodeInfo_npredecessors F.hset) ok_isub Sim.v Sim.cInt)
 (SimSs.cons (SimS.iff (SimT.cmp ok_eq (Sim.slot F.tp F.at__NodeInfo_npredecessors Sim.v) Sim.cInt)
 (SimSs.cons (SimS.exp (Sim.meth (Meth.list PySem.F.slot_list_append PySem.F.type_list_append) (Sim.attr F.tp (i:=5) rfl F.at_TS__ready_nodes Sim.v) (SimR.of (SimA.cons Sim.v SimA.nil)) OkC.append (KeepF.builtin _)))
 SimSs.nil)
 SimSs.nil)
 SimSs.nil))) (λz z=>rfl) (eE 23))
 (SimSs.cons (SimS.aug (OkGet.dict F.tp (i:=12) rfl F.at_TS__nfinished) (OkSet.dict inj1 F.tp (i:=12) rfl F.at_TS__nfinished) ok_iadd Sim.v Sim.cInt)
 SimSs.nil)))))) (λz z=>rfl) (eE 1))
 SimSs.nil)))
set_option maxHeartbeats 4000000 in
theorem nh(F:jn w H K mg mb)(hex0:ex 0= .type "StopIteration")(hex1:ex 1= .ref 55):OkK (P1 w H K) (dy ex) 2 (.ref 158) dU:=
 OkK.fn (d:=1) (nm:=iG) rfl F.tp F.fn_Whitespace_init (BdIds.pos _) (by kernel_rfl)
 (SimSs.cons (SimS.asg Sim.v (SimG.attr (OkSet.dict inj1 F.tp (i:=26) rfl F.at_Whitespace_raw) Sim.v))
 (SimSs.cons (SimS.swap inj1 (i:=27) (j:=28) (by decide) (by show j9 (iG 27) _=_;decide+kernel) (by show j9 (iG 28) _=_;decide+kernel) (Sim.tup (SimA.cons (Sim.clsAttr F.tp (NameIs.glob F.tp (by kernel_rfl) (by kernel_rfl) F.g_Whitespace) F.rd_Whitespace F.ca_Whitespace_S.choose_spec) (SimA.cons (Sim.clsAttr F.tp (NameIs.glob F.tp (by kernel_rfl) (by kernel_rfl) F.g_Whitespace) F.rd_Whitespace F.ca_Whitespace_T.choose_spec) SimA.nil))) (λz=>rfl) (λenv h=>by cases env;cases h;rfl))
 (SimSs.cons (SimS.asgN (i:=29) inj1 rfl (by kernel_rfl) (Sim.new SimA.nil) (λenv h=>by cases env;cases h;rfl))
 (SimSs.cons (SimS.asg3 Sim.cInt (SimG.v inj1) (SimG.v inj1) (SimG.v inj1) (λz=>rfl) (λz=>rfl))
 (SimSs.cons (SimS.for F.hz (by decide) (Sim.attr F.tp (i:=26) rfl F.at_Whitespace_raw Sim.v) (SimG.v inj1)
 (SimSs.cons (SimS.iff (SimT.cmp ok_eq Sim.v Sim.v)
 (SimSs.cons (SimS.asgN (i:=31) inj1 rfl (by kernel_rfl) (Sim.bin ok_add Sim.v Sim.cInt) (λenv h=>by cases env;cases h;rfl))
 (SimSs.cons (SimS.asgN (i:=30) inj1 rfl (by kernel_rfl) (Sim.bin ok_add Sim.v Sim.cInt) (λenv h=>by cases env;cases h;rfl))
 SimSs.nil))
 (SimSs.cons (SimS.iff (SimT.cmp ok_eq Sim.v Sim.v)
 (SimSs.cons (SimS.asgN (i:=31) inj1 rfl (by kernel_rfl) (Sim.bin ok_add Sim.v Sim.cInt) (λenv h=>by cases env;cases h;rfl))
 (SimSs.cons (SimS.asgN (i:=32) inj1 rfl (by kernel_rfl) (Sim.bin ok_add Sim.v Sim.cInt) (λenv h=>by cases env;cases h;rfl))
 (SimSs.cons (SimS.iff (SimT.cmp ok_ge Sim.v (Sim.call (Sim.b F.tp (by kernel_rfl) F.n_len F.b_len) (SimR.of (SimA.cons Sim.v SimA.nil)) (OkC.len F.hz) (KeepF.builtin _)))
 (SimSs.cons (SimS.asgN (i:=29) inj1 rfl (by kernel_rfl) (Sim.bin An Sim.v (Sim.bin mO (Sim.lst (SimA.cons Sim.cInt SimA.nil)) (Sim.bin ok_add (Sim.bin pn Sim.v (Sim.call (Sim.b F.tp (by kernel_rfl) F.n_len F.b_len) (SimR.of (SimA.cons Sim.v SimA.nil)) (OkC.len F.hz) (KeepF.builtin _))) Sim.cInt))) (λenv h=>by cases env;cases h;rfl))
 SimSs.nil)
 SimSs.nil)
 (SimSs.cons (SimS.asg (Sim.bin ok_add (Sim.item Sim.v Sim.v (λz z=>⟨_,rfl⟩)) Sim.cInt) (SimG.item Sim.v Sim.v))
 (SimSs.cons (SimS.asgN (i:=30) inj1 rfl (by kernel_rfl) Sim.cInt (λenv h=>by cases env;cases h;rfl))
 SimSs.nil)))))
 (SimSs.cons SimS.brk
 SimSs.nil))
 SimSs.nil))
 SimSs.nil) (λz z=>rfl) (eE 33))
 (SimSs.cons (SimS.asg Sim.v (SimG.attr (OkSet.dict inj1 F.tp (i:=31) rfl F.at_Whitespace_n) Sim.v))
 (SimSs.cons (SimS.asg Sim.v (SimG.attr (OkSet.dict inj1 F.tp (i:=32) rfl F.at_Whitespace_nt) Sim.v))
 (SimSs.cons (SimS.asg (Sim.tup (SimA.cons (Sim.call (Sim.b F.tp (by kernel_rfl) F.n_tuple F.b_tuple) (SimR.of (SimA.cons Sim.v SimA.nil)) OkC.tupL (KeepF.type _)) (SimA.cons Sim.v SimA.nil))) (SimG.attr (OkSet.dict inj1 F.tp (i:=34) rfl F.at_Whitespace_norm) Sim.v))
 (SimSs.cons (SimS.asg (Sim.cmp uV (Sim.call (Sim.b F.tp (by kernel_rfl) F.n_len F.b_len) (SimR.of (SimA.cons Sim.v SimA.nil)) (OkC.len F.hz) (KeepF.builtin _)) Sim.cInt rfl) (SimG.attr (OkSet.dict inj1 F.tp (i:=35) rfl F.at_Whitespace_is_simple) Sim.v))
 SimSs.nil)))))))))
set_option maxHeartbeats 4000000 in
theorem gW(F:jn w H K mg mb)(hex0:ex 0= .type "StopIteration")(hex1:ex 1= .ref 55):OkK (P1 w H K) (dy ex) 2 (.ref 165) aR:=
 OkK.fn (d:=1) (nm:=iG) rfl F.tp F.fn_Whitespace_longest_run_of_spaces (BdIds.pos _) (by kernel_rfl)
 (SimSs.cons (SimS.asg (Sim.attr F.tp (i:=34) rfl F.at_Whitespace_norm Sim.v) (SimG.tup (by decide) (SimGs.cons (SimG.v inj1) (SimGs.cons (SimG.v inj1) SimGs.nil)) (λz=>rfl) rfl (iP [29,36])))
 (SimSs.cons (SimS.ret (Sim.call (Sim.b F.tp (by kernel_rfl) F.n_max F.b_max) (SimR.of (SimA.cons (Sim.bin pn (Sim.call (Sim.b F.tp (by kernel_rfl) F.n_len F.b_len) (SimR.of (SimA.cons Sim.v SimA.nil)) (OkC.len F.hz) (KeepF.builtin _)) Sim.cInt) (SimA.cons Sim.v SimA.nil))) (OkC.max2 (by decide)) (KeepF.builtin _)))
 SimSs.nil))
set_option maxHeartbeats 4000000 in
theorem jH(F:jn w H K mg mb)(hex0:ex 0= .type "StopIteration")(hex1:ex 1= .ref 55):OkK (P1 w H K) (dy ex) 2 (.ref 172) aY:=
 OkK.fn (d:=1) (nm:=iG) rfl F.tp F.fn_Whitespace_indent_level (BdIds.pos _) (by kernel_rfl)
 (SimSs.cons (SimS.asg (Sim.attr F.tp (i:=34) rfl F.at_Whitespace_norm Sim.v) (SimG.tup (by decide) (SimGs.cons (SimG.v inj1) (SimGs.cons (SimG.v inj1) SimGs.nil)) (λz=>rfl) rfl (iP [29,36])))
 (SimSs.cons (SimS.asgN (i:=38) inj1 rfl (by kernel_rfl) Sim.cInt (λenv h=>by cases env;cases h;rfl))
 (SimSs.cons (SimS.for F.hz (by decide) (Sim.call (Sim.b F.tp (by kernel_rfl) F.n_range F.b_range) (SimR.of (SimA.cons Sim.v (SimA.cons (Sim.call (Sim.b F.tp (by kernel_rfl) F.n_len F.b_len) (SimR.of (SimA.cons Sim.v SimA.nil)) (OkC.len F.hz) (KeepF.builtin _)) SimA.nil))) OkC.range2 (KeepF.type _)) (SimG.v inj1)
 (SimSs.cons (SimS.asgN (i:=38) inj1 rfl (by kernel_rfl) (Sim.bin ok_add Sim.v (Sim.bin mO (Sim.bin t6 Sim.v Sim.v) (Sim.item Sim.v Sim.v (λz z=>⟨_,rfl⟩)))) (λenv h=>by cases env;cases h;rfl))
 SimSs.nil) (λz z=>rfl) (eE 18))
 (SimSs.cons (SimS.ret (Sim.bin ok_add Sim.v (Sim.bin mO Sim.v (Sim.bin ok_add Sim.v (Sim.attr F.tp (i:=32) rfl F.at_Whitespace_nt Sim.v)))))
 SimSs.nil))))
set_option maxHeartbeats 4000000 in
theorem ng(F:jn w H K mg mb)(hex0:ex 0= .type "StopIteration")(hex1:ex 1= .ref 55)(h_Whitespace_indent_level:OkK (P1 w H K) (dy ex) 2 (.ref 172) aY)(h_Whitespace_longest_run_of_spaces:OkK (P1 w H K) (dy ex) 2 (.ref 165) aR):OkK (P1 w H K) (dy ex) 3 (.ref 193) fQ:=
 OkK.fn (d:=2) (nm:=iG) rfl F.tp F.fn_Whitespace_less (BdIds.pos _) (by kernel_rfl)
 (SimSs.cons (SimS.iff (SimT.cmp ok_ge (Sim.attr F.tp (i:=31) rfl F.at_Whitespace_n Sim.v) (Sim.attr F.tp (i:=31) rfl F.at_Whitespace_n Sim.v))
 (SimSs.cons (SimS.ret Sim.cBool)
 SimSs.nil)
 SimSs.nil)
 (SimSs.cons (SimS.iff (SimT.and2 (SimT.val (Sim.attr F.tp (i:=35) rfl F.at_Whitespace_is_simple Sim.v) (λz z=>rfl)) (SimT.val (Sim.attr F.tp (i:=35) rfl F.at_Whitespace_is_simple Sim.v) (λz z=>rfl)))
 (SimSs.cons (SimS.ret (Sim.cmp uV (Sim.attr F.tp (i:=32) rfl F.at_Whitespace_nt Sim.v) (Sim.attr F.tp (i:=32) rfl F.at_Whitespace_nt Sim.v) rfl))
 SimSs.nil)
 SimSs.nil)
 (SimSs.cons (SimS.asgN (i:=31) inj1 rfl (by kernel_rfl) (Sim.bin ok_add (Sim.call (Sim.b F.tp (by kernel_rfl) F.n_max F.b_max) (SimR.of (SimA.cons (Sim.meth (Meth.own inj1 F.tp (j:=40) rfl F.mt_Whitespace_longest_run_of_spaces) Sim.v SimR.nil ((h_Whitespace_longest_run_of_spaces).up (by decide)).c (KeepF.inK F.tp.kin F.kp_Whitespace_longest_run_of_spaces)) (SimA.cons (Sim.meth (Meth.own inj1 F.tp (j:=40) rfl F.mt_Whitespace_longest_run_of_spaces) Sim.v SimR.nil ((h_Whitespace_longest_run_of_spaces).up (by decide)).c (KeepF.inK F.tp.kin F.kp_Whitespace_longest_run_of_spaces)) SimA.nil))) (OkC.max2 (by decide)) (KeepF.builtin _)) Sim.cInt) (λenv h=>by cases env;cases h;rfl))
 (SimSs.cons (SimS.for F.hz (by decide) (Sim.call (Sim.b F.tp (by kernel_rfl) F.n_range F.b_range) (SimR.of (SimA.cons Sim.cInt (SimA.cons (Sim.bin ok_add Sim.v Sim.cInt) SimA.nil))) OkC.range2 (KeepF.type _)) (SimG.v inj1)
 (SimSs.cons (SimS.iff (SimT.cmp ok_ge (Sim.meth (Meth.own inj1 F.tp (j:=42) rfl F.mt_Whitespace_indent_level) Sim.v (SimR.of (SimA.cons Sim.v SimA.nil)) ((h_Whitespace_indent_level).up (by decide)).c (KeepF.inK F.tp.kin F.kp_Whitespace_indent_level)) (Sim.meth (Meth.own inj1 F.tp (j:=42) rfl F.mt_Whitespace_indent_level) Sim.v (SimR.of (SimA.cons Sim.v SimA.nil)) ((h_Whitespace_indent_level).up (by decide)).c (KeepF.inK F.tp.kin F.kp_Whitespace_indent_level)))
 (SimSs.cons (SimS.ret Sim.cBool)
 SimSs.nil)
 SimSs.nil)
 SimSs.nil) (λz z=>rfl) (eE 41))
 (SimSs.cons (SimS.ret Sim.cBool)
 SimSs.nil)))))
set_option maxHeartbeats 4000000 in
theorem iS(F:jn w H K mg mb)(hex0:ex 0= .type "StopIteration")(hex1:ex 1= .ref 55)(h_Whitespace_indent_level:OkK (P1 w H K) (dy ex) 2 (.ref 172) aY)(h_Whitespace_longest_run_of_spaces:OkK (P1 w H K) (dy ex) 2 (.ref 165) aR):OkK (P1 w H K) (dy ex) 3 (.ref 200) cU:=
 OkK.fn (d:=2) (nm:=iG) rfl F.tp F.fn_Whitespace_not_less_witness (BdIds.pos _) (by kernel_rfl)
 (SimSs.cons (SimS.asgN (i:=31) inj1 rfl (by kernel_rfl) (Sim.bin ok_add (Sim.call (Sim.b F.tp (by kernel_rfl) F.n_max F.b_max) (SimR.of (SimA.cons (Sim.meth (Meth.own inj1 F.tp (j:=40) rfl F.mt_Whitespace_longest_run_of_spaces) Sim.v SimR.nil ((h_Whitespace_longest_run_of_spaces).up (by decide)).c (KeepF.inK F.tp.kin F.kp_Whitespace_longest_run_of_spaces)) (SimA.cons (Sim.meth (Meth.own inj1 F.tp (j:=40) rfl F.mt_Whitespace_longest_run_of_spaces) Sim.v SimR.nil ((h_Whitespace_longest_run_of_spaces).up (by decide)).c (KeepF.inK F.tp.kin F.kp_Whitespace_longest_run_of_spaces)) SimA.nil))) (OkC.max2 (by decide)) (KeepF.builtin _)) Sim.cInt) (λenv h=>by cases env;cases h;rfl))
 (SimSs.cons (SimS.asgN (i:=43) inj1 rfl (by kernel_rfl) (Sim.new SimA.nil) (λenv h=>by cases env;cases h;rfl))
 (SimSs.cons (SimS.for F.hz (by decide) (Sim.call (Sim.b F.tp (by kernel_rfl) F.n_range F.b_range) (SimR.of (SimA.cons Sim.cInt (SimA.cons (Sim.bin ok_add Sim.v Sim.cInt) SimA.nil))) OkC.range2 (KeepF.type _)) (SimG.v inj1)
 (SimSs.cons (SimS.iff (SimT.cmp ok_ge (Sim.meth (Meth.own inj1 F.tp (j:=42) rfl F.mt_Whitespace_indent_level) Sim.v (SimR.of (SimA.cons Sim.v SimA.nil)) ((h_Whitespace_indent_level).up (by decide)).c (KeepF.inK F.tp.kin F.kp_Whitespace_indent_level)) (Sim.meth (Meth.own inj1 F.tp (j:=42) rfl F.mt_Whitespace_indent_level) Sim.v (SimR.of (SimA.cons Sim.v SimA.nil)) ((h_Whitespace_indent_level).up (by decide)).c (KeepF.inK F.tp.kin F.kp_Whitespace_indent_level)))
 (SimSs.cons (SimS.exp (Sim.meth (Meth.list PySem.F.slot_list_append PySem.F.type_list_append) Sim.v (SimR.of (SimA.cons (Sim.tup (SimA.cons Sim.v (SimA.cons (Sim.meth (Meth.own inj1 F.tp (j:=42) rfl F.mt_Whitespace_indent_level) Sim.v (SimR.of (SimA.cons Sim.v SimA.nil)) ((h_Whitespace_indent_level).up (by decide)).c (KeepF.inK F.tp.kin F.kp_Whitespace_indent_level)) (SimA.cons (Sim.meth (Meth.own inj1 F.tp (j:=42) rfl F.mt_Whitespace_indent_level) Sim.v (SimR.of (SimA.cons Sim.v SimA.nil)) ((h_Whitespace_indent_level).up (by decide)).c (KeepF.inK F.tp.kin F.kp_Whitespace_indent_level)) SimA.nil)))) SimA.nil)) OkC.append (KeepF.builtin _)))
 SimSs.nil)
 SimSs.nil)
 SimSs.nil) (λz z=>rfl) (eE 41))
 (SimSs.cons (SimS.ret (Sim.frz rfl (by kernel_rfl) (by kernel_rfl) (by kernel_rfl)))
 SimSs.nil))))
set_option maxHeartbeats 4000000 in
theorem uG(F:jn w H K mg mb)(hex0:ex 0= .type "StopIteration")(hex1:ex 1= .ref 55):OkK (P1 w H K) (dy ex) 2 (.ref 214) jt:=
 OkK.fn (d:=1) (nm:=iG) rfl F.tp F.fn_law_text (BdIds.pos _) (by kernel_rfl)
 (SimSs.cons (SimS.asgN (i:=45) inj1 rfl (by kernel_rfl) (Sim.cStr (l:=[]) (by decide+kernel)) (λenv h=>by cases env;cases h;rfl))
 (SimSs.cons (SimS.asgN (i:=46) inj1 rfl (by kernel_rfl) (Sim.bin lg (Sim.bin lg Sim.v Sim.cInt) Sim.cInt) (λenv h=>by cases env;cases h;rfl))
 (SimSs.cons (SimS.for F.hz (by decide) (Sim.call (Sim.b F.tp (by kernel_rfl) F.n_range F.b_range) (SimR.of (SimA.cons Sim.v SimA.nil)) OkC.range1 (KeepF.type _)) (SimG.v inj1)
 (SimSs.cons (SimS.asgN (i:=44) inj1 rfl (by kernel_rfl) (Sim.bin t6 Sim.v Sim.cInt) (λenv h=>by cases env;cases h;rfl))
 (SimSs.cons (SimS.asgN (i:=45) inj1 rfl (by kernel_rfl) (Sim.bin ok_add (Sim.bin ok_add Sim.v (Sim.bin mO (Sim.cStr (l:=[32]) (by decide+kernel)) (Sim.bin lg (Sim.bin lg Sim.v Sim.cInt) Sim.cInt))) (Sim.cStr (l:=[9]) (by decide+kernel))) (λenv h=>by cases env;cases h;rfl))
 SimSs.nil)) (λz z=>rfl) (eE 47))
 (SimSs.cons (SimS.ret (Sim.bin ok_add (Sim.bin ok_add Sim.v (Sim.bin mO (Sim.cStr (l:=[32]) (by decide+kernel)) (Sim.bin lg (Sim.bin lg (Sim.bin t6 Sim.v Sim.cInt) Sim.cInt) Sim.cInt))) (Sim.cStr (l:=[120,32,9]) (by decide+kernel))))
 SimSs.nil))))
set_option maxHeartbeats 4000000 in
theorem rX(F:jn w H K mg mb)(hex0:ex 0= .type "StopIteration")(hex1:ex 1= .ref 55):OkK (P1 w H K) (dy ex) 2 (.ref 221) ij:=
 OkK.fn (d:=1) (nm:=iG) rfl F.tp F.fn_law_column (BdIds.pos _) (by kernel_rfl)
 (SimSs.cons (SimS.asgN (i:=49) inj1 rfl (by kernel_rfl) Sim.cInt (λenv h=>by cases env;cases h;rfl))
 (SimSs.cons (SimS.for F.hz (by decide) (Sim.item (Sim.meth (Meth.str PySem.F.slot_str_split PySem.F.type_str_split) Sim.v (SimR.of (SimA.cons (Sim.cStr (l:=[120]) (by decide+kernel)) SimA.nil)) OkC.split (KeepF.builtin _)) Sim.cInt (λz z=>⟨_,rfl⟩)) (SimG.v inj1)
 (SimSs.cons (SimS.asgN (i:=49) inj1 rfl (by kernel_rfl) (Sim.ite (SimT.cmp ok_eq Sim.v (Sim.cStr (l:=[32]) (by decide+kernel))) (Sim.bin ok_add Sim.v Sim.cInt) (Sim.bin ok_add (Sim.bin pn Sim.v (Sim.bin lg Sim.v Sim.v)) Sim.v)) (λenv h=>by cases env;cases h;rfl))
 SimSs.nil) (λz z=>rfl) (eE 50))
 (SimSs.cons (SimS.ret Sim.v)
 SimSs.nil)))
set_option maxHeartbeats 4000000 in
theorem rY(F:jn w H K mg mb)(hex0:ex 0= .type "StopIteration")(hex1:ex 1= .ref 55):OkK (P1 w H K) (dy ex) 2 (.ref 226) ik:=
 OkK.fn (d:=1) (nm:=iG) rfl F.tp F.fn_law_blocks (BdIds.pos _) (by kernel_rfl)
 (SimSs.cons (SimS.asgN (i:=53) inj1 rfl (by kernel_rfl) (Sim.comp F.hz (by decide) (fr:=[]) (.inl rfl) (bi.of (nm:=iG)) (Sim.call (Sim.b F.tp (by kernel_rfl) F.n_sorted F.b_sorted) (SimR.of (SimA.cons (Sim.comp F.hz (by decide) (fr:=[51]) (.inl rfl) (bi.of (nm:=iG)) (Sim.call (Sim.b F.tp (by kernel_rfl) F.n_range F.b_range) (SimR.of (SimA.cons (Sim.call (Sim.b F.tp (by kernel_rfl) F.n_len F.b_len) (SimR.of (SimA.cons Sim.v SimA.nil)) (OkC.len F.hz) (KeepF.builtin _)) SimA.nil)) OkC.range1 (KeepF.type _)) (SimG.v inj1) (Tgt.var 52) eM.nil (SimI.elt rfl (Sim.tup (SimA.cons (Sim.item (Sim.item Sim.v Sim.v (λz z=>⟨_,rfl⟩)) Sim.cInt (λz z=>⟨_,rfl⟩)) (SimA.cons Sim.v SimA.nil)))) (by decide+kernel) (λz z=>rfl)) SimA.nil)) OkC.sortP (KeepF.builtin _)) (SimG.tup (by decide) (SimGs.cons (SimG.v inj1) (SimGs.cons (SimG.v inj1) SimGs.nil)) (λz=>rfl) rfl (iP [49,52])) (Tgt.tup (by decide+kernel)) eM.nil (SimI.elt rfl Sim.v) (by decide+kernel) (λz z=>rfl)) (λenv h=>by cases env;cases h;rfl))
 (SimSs.cons (SimS.asgN (i:=54) inj1 rfl (by kernel_rfl) (Sim.new SimA.nil) (λenv h=>by cases env;cases h;rfl))
 (SimSs.cons (SimS.for F.hz (by decide) (Sim.call (Sim.b F.tp (by kernel_rfl) F.n_range F.b_range) (SimR.of (SimA.cons (Sim.bin ok_add (Sim.call (Sim.b F.tp (by kernel_rfl) F.n_len F.b_len) (SimR.of (SimA.cons Sim.v SimA.nil)) (OkC.len F.hz) (KeepF.builtin _)) Sim.cInt) SimA.nil)) OkC.range1 (KeepF.type _)) (SimG.v inj1)
 (SimSs.cons (SimS.asgComp inj1 F.hz (by decide) (i:=60) (fr:=[53,55,51]) (.inr ⟨_,_,_,rfl⟩) rfl (by kernel_rfl) (bi.of (nm:=iG)) (Sim.cut Sim.v SimO.none (SimO.some Sim.v) SimO.none (λz z=>⟨_,rfl⟩)) (SimG.v inj1) (Tgt.var 56) eM.nil (SimI.gen F.hz (by decide) rfl (.inr ⟨_,_,_,rfl⟩) (Sim.cut Sim.v (SimO.some Sim.v) SimO.none SimO.none (λz z=>⟨_,rfl⟩)) (SimG.v inj1) (Tgt.var 57) eM.nil (SimI.genZ (by decide) ⟨_,_,_,rfl⟩ rfl (.inl rfl) (Sim.call (Sim.b F.tp (by kernel_rfl) F.n_zip F.b_zip) (SimR.of (SimA.cons (Sim.item Sim.v Sim.v (λz z=>⟨_,rfl⟩)) (SimA.cons (Sim.item Sim.v Sim.v (λz z=>⟨_,rfl⟩)) SimA.nil))) OkC.zip2 (KeepF.type _)) (SimG.tup (by decide) (SimGs.cons (SimG.v inj1) (SimGs.cons (SimG.v inj1) SimGs.nil)) (λz=>rfl) rfl (iP [58,59])) (Tgt.tup (by decide+kernel)) (eM.one (SimT.cmp ok_ge Sim.v Sim.v)) (SimI.elt rfl Sim.cInt) (by decide+kernel) (λz z=>rfl)) (by decide+kernel) (λz z=>rfl)) (by decide+kernel) (λz z=>rfl) (λenv h=>by cases env;cases h;rfl))
 (SimSs.cons (SimS.iff (SimT.cmp ok_eq Sim.v (Sim.lst SimA.nil))
 (SimSs.cons (SimS.exp (Sim.meth (Meth.list PySem.F.slot_list_append PySem.F.type_list_append) Sim.v (SimR.of (SimA.cons Sim.v SimA.nil)) OkC.append (KeepF.builtin _)))
 SimSs.nil)
 SimSs.nil)
 SimSs.nil)) (λz z=>rfl) (eE 55))
 (SimSs.cons (SimS.ret (Sim.comp F.hz (by decide) (fr:=[53,54]) (.inl rfl) (bi.of (nm:=iG)) (Sim.call (Sim.b F.tp (by kernel_rfl) F.n_range F.b_range) (SimR.of (SimA.cons (Sim.bin pn (Sim.call (Sim.b F.tp (by kernel_rfl) F.n_len F.b_len) (SimR.of (SimA.cons Sim.v SimA.nil)) (OkC.len F.hz) (KeepF.builtin _)) Sim.cInt) SimA.nil)) OkC.range1 (KeepF.type _)) (SimG.v inj1) (Tgt.var 61) eM.nil (SimI.elt rfl (Sim.call (Sim.b F.tp (by kernel_rfl) F.n_sorted F.b_sorted) (SimR.of (SimA.cons (Sim.cut Sim.v (SimO.some (Sim.item Sim.v Sim.v (λz z=>⟨_,rfl⟩))) (SimO.some (Sim.item Sim.v (Sim.bin ok_add Sim.v Sim.cInt) (λz z=>⟨_,rfl⟩))) SimO.none (λz z=>⟨_,rfl⟩)) SimA.nil)) OkC.sortInts (KeepF.builtin _))) (by decide+kernel) (λz z=>rfl)))
 SimSs.nil))))
set_option maxHeartbeats 4000000 in
theorem qr(F:jn w H K mg mb)(hex0:ex 0= .type "StopIteration")(hex1:ex 1= .ref 55):OkK (P1 w H K) (dy ex) 2 (.ref 231) iK:=
 OkK.fn (d:=1) (nm:=iG) rfl F.tp F.fn_law_witness (BdIds.pos _) (by kernel_rfl)
 (SimSs.cons (SimS.asgN (i:=65) inj1 rfl (by kernel_rfl) (Sim.call (Sim.b F.tp (by kernel_rfl) F.n_max F.b_max) (SimR.of (SimA.cons (Sim.comp F.hz (by decide) (fr:=[]) (.inr ⟨_,_,_,rfl⟩) (bi.of (nm:=iG)) Sim.v (SimG.v inj1) (Tgt.var 45) eM.nil (SimI.gen F.hz (by decide) rfl (.inl rfl) (Sim.meth (Meth.str PySem.F.slot_str_split PySem.F.type_str_split) (Sim.item (Sim.meth (Meth.str PySem.F.slot_str_split PySem.F.type_str_split) Sim.v (SimR.of (SimA.cons (Sim.cStr (l:=[120]) (by decide+kernel)) SimA.nil)) OkC.split (KeepF.builtin _)) Sim.cInt (λz z=>⟨_,rfl⟩)) (SimR.of (SimA.cons (Sim.cStr (l:=[9]) (by decide+kernel)) SimA.nil)) OkC.split (KeepF.builtin _)) (SimG.v inj1) (Tgt.var 47) eM.nil (SimI.elt rfl (Sim.call (Sim.b F.tp (by kernel_rfl) F.n_len F.b_len) (SimR.of (SimA.cons Sim.v SimA.nil)) (OkC.len F.hz) (KeepF.builtin _))) (by decide+kernel) (λz z=>rfl)) (by decide+kernel) (λz z=>rfl)) SimA.nil)) (OkC.maxL (by decide)) (KeepF.builtin _)) (λenv h=>by cases env;cases h;rfl))
 (SimSs.cons (SimS.asgN (i:=66) inj1 rfl (by kernel_rfl) (Sim.call (Sim.b F.tp (by kernel_rfl) F.n_zip F.b_zip) (SimR.of (SimA.cons (Sim.call (Sim.b F.tp (by kernel_rfl) F.n_range F.b_range) (SimR.of (SimA.cons Sim.cInt (SimA.cons (Sim.bin ok_add Sim.v Sim.cInt) SimA.nil))) OkC.range2 (KeepF.type _)) (SimA.cons Sim.v (SimA.cons Sim.v SimA.nil)))) OkC.zip3 (KeepF.type _)) (λenv h=>by cases env;cases h;rfl))
 (SimSs.cons (SimS.ret (Sim.compZ (by decide) (fr:=[]) ⟨_,_,_,rfl⟩ (.inl rfl) (bi.of (nm:=iG)) Sim.v (SimG.tup (by decide) (SimGs.cons (SimG.v inj1) (SimGs.cons (SimG.v inj1) (SimGs.cons (SimG.v inj1) SimGs.nil))) (λz=>rfl) rfl (iP [48,58,59])) (Tgt.tup (by decide+kernel)) (eM.one (SimT.cmp ok_ge Sim.v Sim.v)) (SimI.elt rfl (Sim.tup (SimA.cons Sim.v (SimA.cons Sim.v (SimA.cons Sim.v SimA.nil))))) (by decide+kernel) (λz z=>rfl)))
 SimSs.nil)))
set_option maxHeartbeats 4000000 in
theorem uH(F:jn w H K mg mb)(hex0:ex 0= .type "StopIteration")(hex1:ex 1= .ref 55):OkK (P1 w H K) (dy ex) 2 (.ref 236) ju:=
 OkK.fn (d:=1) (nm:=iG) rfl F.tp F.fn_law_ring (BdIds.pos _) (by kernel_rfl)
 (SimSs.cons (SimS.asgN (i:=68) inj1 rfl (by kernel_rfl) (Sim.call (Sim.b F.tp (by kernel_rfl) F.n_len F.b_len) (SimR.of (SimA.cons Sim.v SimA.nil)) (OkC.len F.hz) (KeepF.builtin _)) (λenv h=>by cases env;cases h;rfl))
 (SimSs.cons (SimS.asgN (i:=71) inj1 rfl (by kernel_rfl) (Sim.comp F.hz (by decide) (fr:=[68,67]) (.inl rfl) (bi.of (nm:=iG)) (Sim.call (Sim.b F.tp (by kernel_rfl) F.n_range F.b_range) (SimR.of (SimA.cons Sim.v SimA.nil)) OkC.range1 (KeepF.type _)) (SimG.v inj1) (Tgt.var 69) eM.nil (SimI.elt rfl (Sim.comp F.hz (by decide) (fr:=[69,67]) (.inl rfl) (bi.of (nm:=iG)) (Sim.call (Sim.b F.tp (by kernel_rfl) F.n_range F.b_range) (SimR.of (SimA.cons Sim.v SimA.nil)) OkC.range1 (KeepF.type _)) (SimG.v inj1) (Tgt.var 70) (eM.one (SimT.cmp (ok_in F.hz) Sim.v (Sim.item Sim.v Sim.v (λz z=>⟨_,rfl⟩)))) (SimI.elt rfl Sim.v) (by decide+kernel) (λz z=>rfl))) (by decide+kernel) (λz z=>rfl)) (λenv h=>by cases env;cases h;rfl))
 (SimSs.cons (SimS.asgN (i:=72) inj1 rfl (by kernel_rfl) (Sim.call (Sim.b F.tp (by kernel_rfl) F.n_list F.b_list) (SimR.of (SimA.cons (Sim.call (Sim.b F.tp (by kernel_rfl) F.n_range F.b_range) (SimR.of (SimA.cons Sim.v SimA.nil)) OkC.range1 (KeepF.type _)) SimA.nil)) (OkC.listR (by decide)) (KeepF.type _)) (λenv h=>by cases env;cases h;rfl))
 (SimSs.cons (SimS.for F.hz (by decide) (Sim.call (Sim.b F.tp (by kernel_rfl) F.n_range F.b_range) (SimR.of (SimA.cons Sim.v SimA.nil)) OkC.range1 (KeepF.type _)) (SimG.v inj1)
 (SimSs.cons (SimS.asgN (i:=72) inj1 rfl (by kernel_rfl) (Sim.comp F.hz (by decide) (fr:=[71,72]) (.inl rfl) (bi.of (nm:=iG)) Sim.v (SimG.v inj1) (Tgt.var 74) (eM.one (SimT.cmp ok_ne (Sim.comp F.hz (by decide) (fr:=[72]) (.inl rfl) (bi.of (nm:=iG)) (Sim.item Sim.v Sim.v (λz z=>⟨_,rfl⟩)) (SimG.v inj1) (Tgt.var 70) (eM.one (SimT.cmp (ok_in F.hz) Sim.v Sim.v)) (SimI.elt rfl Sim.v) (by decide+kernel) (λz z=>rfl)) (Sim.lst SimA.nil))) (SimI.elt rfl Sim.v) (by decide+kernel) (λz z=>rfl)) (λenv h=>by cases env;cases h;rfl))
 SimSs.nil) (λz z=>rfl) (eE 73))
 (SimSs.cons (SimS.asgComp inj1 F.hz (by decide) (i:=75) (fr:=[67,72]) (.inr ⟨_,_,_,rfl⟩) rfl (by kernel_rfl) (bi.of (nm:=iG)) (Sim.call (Sim.b F.tp (by kernel_rfl) F.n_range F.b_range) (SimR.of (SimA.cons Sim.v SimA.nil)) OkC.range1 (KeepF.type _)) (SimG.v inj1) (Tgt.var 70) eM.nil (SimI.gen F.hz (by decide) rfl (.inl rfl) (Sim.bin ok_add (Sim.lst (SimA.cons Sim.v SimA.nil)) (Sim.item Sim.v Sim.v (λz z=>⟨_,rfl⟩))) (SimG.v inj1) (Tgt.var 74) (eM.one (SimT.cmp (ok_in F.hz) Sim.v Sim.v)) (SimI.elt rfl Sim.v) (by decide+kernel) (λz z=>rfl)) (by decide+kernel) (λz z=>rfl) (λenv h=>by cases env;cases h;rfl))
 (SimSs.cons (SimS.iff (SimT.cmp ok_eq Sim.v (Sim.lst SimA.nil))
 (SimSs.cons (SimS.ret Sim.cNone)
 SimSs.nil)
 SimSs.nil)
 (SimSs.cons (SimS.asgN (i:=76) inj1 rfl (by kernel_rfl) (Sim.new SimA.nil) (λenv h=>by cases env;cases h;rfl))
 (SimSs.cons (SimS.asgN (i:=74) inj1 rfl (by kernel_rfl) (Sim.item Sim.v Sim.cInt (λz z=>⟨_,rfl⟩)) (λenv h=>by cases env;cases h;rfl))
 (SimSs.cons (SimS.while (SimT.cmp (ok_notIn F.hz) Sim.v Sim.v)
 (SimSs.cons (SimS.exp (Sim.meth (Meth.list PySem.F.slot_list_append PySem.F.type_list_append) Sim.v (SimR.of (SimA.cons Sim.v SimA.nil)) OkC.append (KeepF.builtin _)))
 (SimSs.cons (SimS.asgN (i:=74) inj1 rfl (by kernel_rfl) (Sim.item (Sim.comp F.hz (by decide) (fr:=[72]) (.inl rfl) (bi.of (nm:=iG)) (Sim.item Sim.v Sim.v (λz z=>⟨_,rfl⟩)) (SimG.v inj1) (Tgt.var 70) (eM.one (SimT.cmp (ok_in F.hz) Sim.v Sim.v)) (SimI.elt rfl Sim.v) (by decide+kernel) (λz z=>rfl)) Sim.cInt (λz z=>⟨_,rfl⟩)) (λenv h=>by cases env;cases h;rfl))
 SimSs.nil))
 SimSs.nil)
 (SimSs.cons (SimS.ret (Sim.bin ok_add (Sim.cut Sim.v (SimO.some (Sim.meth (Meth.list PySem.F.slot_list_index PySem.F.type_list_index) Sim.v (SimR.of (SimA.cons Sim.v SimA.nil)) OkC.index (KeepF.builtin _))) SimO.none SimO.none (λz z=>⟨_,rfl⟩)) (Sim.lst (SimA.cons Sim.v SimA.nil))))
 SimSs.nil))))))))))
set_option maxHeartbeats 4000000 in
theorem tM(F:jn w H K mg mb)(hex0:ex 0= .type "StopIteration")(hex1:ex 1= .ref 55)(h_TS_init:OkK (P1 w H K) (dy ex) 2 (.ref 73) lM)(h_TS__find_cycle:OkK (P1 w H K) (dy ex) 2 (.ref 127) d3)(h_TS_add:OkK (P1 w H K) (dy ex) 5 (.ref 87) m0)(h_TS_done:OkK (P1 w H K) (dy ex) 2 (.ref 120) lN)(h_TS_get_ready:OkK (P1 w H K) (dy ex) 2 (.ref 99) io)(h_TS_is_active:OkK (P1 w H K) (dy ex) 2 (.ref 106) fk)(h_TS_prepare:OkK (P1 w H K) (dy ex) 3 (.ref 92) jd):OkK (P1 w H K) (dy ex) 6 (.ref 243) jL:=
 OkK.fn (d:=5) (nm:=iG) rfl F.tp F.fn_law_stage (BdIds.pos _) (by kernel_rfl)
 (SimSs.cons (SimS.asgN (i:=77) inj1 rfl (by kernel_rfl) (Sim.call (Sim.g F.tp (by kernel_rfl) F.g_TS) SimR.nil ((OkK.make F.tp F.mk_TS (h_TS_init)).up (by decide)).c (KeepF.inK F.tp.kin F.kp_TS)) (λenv h=>by cases env;cases h;rfl))
 (SimSs.cons (SimS.for F.hz (by decide) (Sim.call (Sim.b F.tp (by kernel_rfl) F.n_range F.b_range) (SimR.of (SimA.cons (Sim.call (Sim.b F.tp (by kernel_rfl) F.n_len F.b_len) (SimR.of (SimA.cons Sim.v SimA.nil)) (OkC.len F.hz) (KeepF.builtin _)) SimA.nil)) OkC.range1 (KeepF.type _)) (SimG.v inj1)
 (SimSs.cons (SimS.exp (Sim.methStar inj1 F.tp (j:=78) rfl F.mt_TS_add F.sg_TS_add F.tk_TS_add F.ci_TS (by show copiedNames.contains (iG 78)=false;decide+kernel) F.fi_TS_add Sim.v (SimR.of (SimA.cons Sim.v (SimA.star (Sim.item Sim.v Sim.v (λz z=>⟨_,rfl⟩)) SimA.nil))) ((h_TS_add).up (by decide)) (λz=>rfl) (λz=>rfl)))
 SimSs.nil) (λz z=>rfl) (eE 74))
 (SimSs.cons (SimS.asgN (i:=79) inj1 rfl (by kernel_rfl) (Sim.meth (Meth.own inj1 F.tp (j:=19) rfl F.mt_TS__find_cycle) Sim.v SimR.nil ((h_TS__find_cycle).up (by decide)).c (KeepF.inK F.tp.kin F.kp_TS__find_cycle)) (λenv h=>by cases env;cases h;rfl))
 (SimSs.cons (SimS.asgN (i:=80) inj1 rfl (by kernel_rfl) Sim.cBool (λenv h=>by cases env;cases h;rfl))
 (SimSs.cons (SimS.try (SimSs.cons (SimS.exp (Sim.meth (Meth.own inj1 F.tp (j:=81) rfl F.mt_TS_prepare) Sim.v SimR.nil ((h_TS_prepare).up (by decide)).c (KeepF.inK F.tp.kin F.kp_TS_prepare)))
 SimSs.nil) (NameIs.glob F.tp (by kernel_rfl) (by kernel_rfl) F.g_CycleError) (hex1▸F.mat1) (SimSs.cons (SimS.asgN (i:=80) inj1 rfl (by kernel_rfl) Sim.cBool (λenv h=>by cases env;cases h;rfl))
 SimSs.nil))
 (SimSs.cons (SimS.asgN (i:=82) inj1 rfl (by kernel_rfl) (Sim.new SimA.nil) (λenv h=>by cases env;cases h;rfl))
 (SimSs.cons (SimS.while (SimT.and2 (SimT.val (Sim.meth (Meth.own inj1 F.tp (j:=83) rfl F.mt_TS_is_active) Sim.v SimR.nil ((h_TS_is_active).up (by decide)).c (KeepF.inK F.tp.kin F.kp_TS_is_active)) (λz z=>rfl)) (SimT.cmp uV (Sim.call (Sim.b F.tp (by kernel_rfl) F.n_len F.b_len) (SimR.of (SimA.cons Sim.v SimA.nil)) (OkC.len F.hz) (KeepF.builtin _)) (Sim.call (Sim.b F.tp (by kernel_rfl) F.n_len F.b_len) (SimR.of (SimA.cons Sim.v SimA.nil)) (OkC.len F.hz) (KeepF.builtin _))))
 (SimSs.cons (SimS.exp (Sim.meth (Meth.list PySem.F.slot_list_append PySem.F.type_list_append) Sim.v (SimR.of (SimA.cons (Sim.meth (Meth.own inj1 F.tp (j:=84) rfl F.mt_TS_get_ready) Sim.v SimR.nil ((h_TS_get_ready).up (by decide)).c (KeepF.inK F.tp.kin F.kp_TS_get_ready)) SimA.nil)) OkC.append (KeepF.builtin _)))
 (SimSs.cons (SimS.exp (Sim.methStar inj1 F.tp (j:=85) rfl F.mt_TS_done F.sg_TS_done F.tk_TS_done F.ci_TS (by show copiedNames.contains (iG 85)=false;decide+kernel) F.fi_TS_done Sim.v (SimR.lone (Sim.item Sim.v (Sim.neg Sim.cInt) (λz z=>⟨_,rfl⟩))) ((h_TS_done).up (by decide)) (λz=>rfl) (λz=>rfl)))
 SimSs.nil))
 SimSs.nil)
 (SimSs.cons (SimS.ret (Sim.tup (SimA.cons Sim.v (SimA.cons Sim.v (SimA.cons (Sim.frz rfl (by kernel_rfl) (by kernel_rfl) (by kernel_rfl)) SimA.nil)))))
 SimSs.nil))))))))
set_option maxHeartbeats 4000000 in
theorem DJ(F:jn w H K mg mb)(hex0:ex 0= .type "StopIteration")(hex1:ex 1= .ref 55)(h_Whitespace_init:OkK (P1 w H K) (dy ex) 2 (.ref 158) dU)(h_Whitespace_less:OkK (P1 w H K) (dy ex) 3 (.ref 193) fQ)(h_Whitespace_not_less_witness:OkK (P1 w H K) (dy ex) 3 (.ref 200) cU)(h_law_blocks:OkK (P1 w H K) (dy ex) 2 (.ref 226) ik)(h_law_column:OkK (P1 w H K) (dy ex) 2 (.ref 221) ij)(h_law_ring:OkK (P1 w H K) (dy ex) 2 (.ref 236) ju)(h_law_stage:OkK (P1 w H K) (dy ex) 6 (.ref 243) jL)(h_law_text:OkK (P1 w H K) (dy ex) 2 (.ref 214) jt)(h_law_witness:OkK (P1 w H K) (dy ex) 2 (.ref 231) iK):OkK (P1 w H K) (dy ex) 7 (.ref 248) xJ:=
 OkK.fn (d:=6) (nm:=iG) rfl F.tp F.fn_law (BdIds.pos _) (by kernel_rfl)
 (SimSs.cons (SimS.asgN (i:=87) inj1 rfl (by kernel_rfl) (Sim.bin pn Sim.cInt (Sim.bin lg (Sim.call (Sim.b F.tp (by kernel_rfl) F.n_sum F.b_sum) (SimR.of (SimA.cons Sim.v SimA.nil)) (OkC.sum (by decide)) (KeepF.builtin _)) Sim.cInt)) (λenv h=>by cases env;cases h;rfl))
 (SimSs.cons (SimS.asgComp inj1 F.hz (by decide) (i:=64) (fr:=[]) (.inl rfl) rfl (by kernel_rfl) (bi.of (nm:=iG)) (Sim.bin ok_add (Sim.lst (SimA.cons Sim.cInt (SimA.cons Sim.cInt (SimA.cons Sim.cInt (SimA.cons Sim.cInt SimA.nil))))) (Sim.cut Sim.v SimO.none (SimO.some Sim.cInt) SimO.none (λz z=>⟨_,rfl⟩))) (SimG.v inj1) (Tgt.var 44) eM.nil (SimI.elt rfl (Sim.call (Sim.g F.tp (by kernel_rfl) F.g__law_text) (SimR.of (SimA.cons Sim.v SimA.nil)) ((h_law_text).up (by decide)).c (KeepF.inK F.tp.kin F.kp_law_text))) (by decide+kernel) (λz z=>rfl) (λenv h=>by cases env;cases h;rfl))
 (SimSs.cons (SimS.asgComp inj1 F.hz (by decide) (i:=88) (fr:=[]) (.inl rfl) rfl (by kernel_rfl) (bi.of (nm:=iG)) Sim.v (SimG.v inj1) (Tgt.var 45) eM.nil (SimI.elt rfl (Sim.call (Sim.g F.tp (by kernel_rfl) F.g_Whitespace) (SimR.of (SimA.cons Sim.v SimA.nil)) ((OkK.makeF F.tp F.mk_Whitespace (h_Whitespace_init)).up (by decide)).c (KeepF.inK F.tp.kin F.kp_Whitespace))) (by decide+kernel) (λz z=>rfl) (λenv h=>by cases env;cases h;rfl))
 (SimSs.cons (SimS.asgN (i:=89) inj1 rfl (by kernel_rfl) (Sim.call (Sim.b F.tp (by kernel_rfl) F.n_list F.b_list) (SimR.of (SimA.cons (Sim.call (Sim.b F.tp (by kernel_rfl) F.n_range F.b_range) (SimR.of (SimA.cons (Sim.call (Sim.b F.tp (by kernel_rfl) F.n_len F.b_len) (SimR.of (SimA.cons Sim.v SimA.nil)) (OkC.len F.hz) (KeepF.builtin _)) SimA.nil)) OkC.range1 (KeepF.type _)) SimA.nil)) (OkC.listR (by decide)) (KeepF.type _)) (λenv h=>by cases env;cases h;rfl))
 (SimSs.cons (SimS.asgComp inj1 F.hz (by decide) (i:=51) (fr:=[]) (.inl rfl) rfl (by kernel_rfl) (bi.of (nm:=iG)) Sim.v (SimG.v inj1) (Tgt.var 45) eM.nil (SimI.elt rfl (Sim.comp F.hz (by decide) (fr:=[45]) (.inl rfl) (bi.of (nm:=iG)) (Sim.call (Sim.b F.tp (by kernel_rfl) F.n_range F.b_range) (SimR.of (SimA.cons Sim.cInt (SimA.cons Sim.cInt SimA.nil))) OkC.range2 (KeepF.type _)) (SimG.v inj1) (Tgt.var 48) eM.nil (SimI.elt rfl (Sim.call (Sim.g F.tp (by kernel_rfl) F.g__law_column) (SimR.of (SimA.cons Sim.v (SimA.cons Sim.v SimA.nil))) ((h_law_column).up (by decide)).c (KeepF.inK F.tp.kin F.kp_law_column))) (by decide+kernel) (λz z=>rfl))) (by decide+kernel) (λz z=>rfl) (λenv h=>by cases env;cases h;rfl))
 (SimSs.cons (SimS.asgN (i:=90) inj1 rfl (by kernel_rfl) (Sim.new SimA.nil) (λenv h=>by cases env;cases h;rfl))
 (SimSs.cons (SimS.for F.hz (by decide) Sim.v (SimG.v inj1)
 (SimSs.cons (SimS.for F.hz (by decide) Sim.v (SimG.v inj1)
 (SimSs.cons (SimS.iff (SimT.and2 (SimT.cmp ok_lt Sim.v Sim.v) (SimT.cmp ok_eq Sim.v Sim.cInt))
 (SimSs.cons (SimS.asgN (i:=92) inj1 rfl (by kernel_rfl) (Sim.meth (Meth.own inj1 F.tp (j:=91) rfl F.mt_Whitespace_less) (Sim.item Sim.v Sim.v (λz z=>⟨_,rfl⟩)) (SimR.of (SimA.cons (Sim.item Sim.v Sim.v (λz z=>⟨_,rfl⟩)) SimA.nil)) ((h_Whitespace_less).up (by decide)).c (KeepF.inK F.tp.kin F.kp_Whitespace_less)) (λenv h=>by cases env;cases h;rfl))
 (SimSs.cons (SimS.iff (SimT.and2 (SimT.cmp ok_isNot Sim.v Sim.cBool) (SimT.cmp ok_isNot Sim.v Sim.cBool))
 (SimSs.cons (SimS.ret Sim.cBool)
 SimSs.nil)
 SimSs.nil)
 (SimSs.cons (SimS.iff (SimT.cmp ok_is Sim.v Sim.cBool)
 (SimSs.cons (SimS.exp (Sim.meth (Meth.list PySem.F.slot_list_append PySem.F.type_list_append) Sim.v (SimR.of (SimA.cons (Sim.tup (SimA.cons Sim.v (SimA.cons Sim.v SimA.nil))) SimA.nil)) OkC.append (KeepF.builtin _)))
 SimSs.nil)
 SimSs.nil)
 SimSs.nil)))
 (SimSs.cons (SimS.iff (SimT.cmp ok_ne Sim.v Sim.v)
 (SimSs.cons (SimS.asgN (i:=94) inj1 rfl (by kernel_rfl) (Sim.meth (Meth.own inj1 F.tp (j:=93) rfl F.mt_Whitespace_not_less_witness) (Sim.item Sim.v Sim.v (λz z=>⟨_,rfl⟩)) (SimR.of (SimA.cons (Sim.item Sim.v Sim.v (λz z=>⟨_,rfl⟩)) SimA.nil)) ((h_Whitespace_not_less_witness).up (by decide)).c (KeepF.inK F.tp.kin F.kp_Whitespace_not_less_witness)) (λenv h=>by cases env;cases h;rfl))
 (SimSs.cons (SimS.iff (SimT.cmp ok_ne Sim.v (Sim.call (Sim.g F.tp (by kernel_rfl) F.g__law_witness) (SimR.of (SimA.cons (Sim.item Sim.v Sim.v (λz z=>⟨_,rfl⟩)) (SimA.cons (Sim.item Sim.v Sim.v (λz z=>⟨_,rfl⟩)) (SimA.cons (Sim.lst (SimA.cons (Sim.item Sim.v Sim.v (λz z=>⟨_,rfl⟩)) (SimA.cons (Sim.item Sim.v Sim.v (λz z=>⟨_,rfl⟩)) SimA.nil))) SimA.nil)))) ((h_law_witness).up (by decide)).c (KeepF.inK F.tp.kin F.kp_law_witness)))
 (SimSs.cons (SimS.ret Sim.cBool)
 SimSs.nil)
 SimSs.nil)
 (SimSs.cons (SimS.iff (SimT.cmp ok_ne (Sim.comp F.hz (by decide) (fr:=[87]) (.inl rfl) (bi.of (nm:=iG)) Sim.v (SimG.tup (by decide) (SimGs.cons (SimG.v inj1) (SimGs.cons (SimG.v inj1) (SimGs.cons (SimG.v inj1) SimGs.nil))) (λz=>rfl) rfl (iP [48,58,59])) (Tgt.tup (by decide+kernel)) (eM.one (SimT.cmp uV Sim.v Sim.v)) (SimI.elt rfl Sim.v) (by decide+kernel) (λz z=>rfl)) (Sim.lst SimA.nil))
 (SimSs.cons (SimS.exp (Sim.meth (Meth.list PySem.F.slot_list_append PySem.F.type_list_append) Sim.v (SimR.of (SimA.cons (Sim.tup (SimA.cons Sim.v (SimA.cons Sim.v SimA.nil))) SimA.nil)) OkC.append (KeepF.builtin _)))
 SimSs.nil)
 SimSs.nil)
 SimSs.nil)))
 SimSs.nil)
 SimSs.nil))
 SimSs.nil) (λz z=>rfl) (eE 57))
 SimSs.nil) (λz z=>rfl) (eE 56))
 (SimSs.cons (SimS.asgN (i:=95) inj1 rfl (by kernel_rfl) (Sim.call (Sim.g F.tp (by kernel_rfl) F.g__law_blocks) (SimR.of (SimA.cons (Sim.comp F.hz (by decide) (fr:=[87]) (.inl rfl) (bi.of (nm:=iG)) Sim.v (SimG.v inj1) (Tgt.var 49) eM.nil (SimI.elt rfl (Sim.cut Sim.v SimO.none (SimO.some Sim.v) SimO.none (λz z=>⟨_,rfl⟩))) (by decide+kernel) (λz z=>rfl)) SimA.nil)) ((h_law_blocks).up (by decide)).c (KeepF.inK F.tp.kin F.kp_law_blocks)) (λenv h=>by cases env;cases h;rfl))
 (SimSs.cons (SimS.asgN (i:=96) inj1 rfl (by kernel_rfl) (Sim.comp F.hz (by decide) (fr:=[]) (.inl rfl) (bi.of (nm:=iG)) Sim.v (SimG.v inj1) (Tgt.var 52) eM.nil (SimI.elt rfl (Sim.lst (SimA.cons Sim.v SimA.nil))) (by decide+kernel) (λz z=>rfl)) (λenv h=>by cases env;cases h;rfl))
 (SimSs.cons (SimS.for F.hz (by decide) Sim.v (SimG.v inj1)
 (SimSs.cons (SimS.asgN (i:=98) inj1 rfl (by kernel_rfl) (Sim.comp F.hz (by decide) (fr:=[96]) (.inl rfl) (bi.of (nm:=iG)) Sim.v (SimG.v inj1) (Tgt.var 52) eM.nil (SimI.elt rfl (Sim.item (Sim.comp F.hz (by decide) (fr:=[52,96]) (.inl rfl) (bi.of (nm:=iG)) (Sim.call (Sim.b F.tp (by kernel_rfl) F.n_range F.b_range) (SimR.of (SimA.cons (Sim.call (Sim.b F.tp (by kernel_rfl) F.n_len F.b_len) (SimR.of (SimA.cons Sim.v SimA.nil)) (OkC.len F.hz) (KeepF.builtin _)) SimA.nil)) OkC.range1 (KeepF.type _)) (SimG.v inj1) (Tgt.var 61) (eM.one (SimT.cmp (ok_in F.hz) Sim.v (Sim.item Sim.v Sim.v (λz z=>⟨_,rfl⟩)))) (SimI.elt rfl Sim.v) (by decide+kernel) (λz z=>rfl)) Sim.cInt (λz z=>⟨_,rfl⟩))) (by decide+kernel) (λz z=>rfl)) (λenv h=>by cases env;cases h;rfl))
 (SimSs.cons (SimS.asgComp inj1 F.hz (by decide) (i:=67) (fr:=[90,98]) (.inl rfl) rfl (by kernel_rfl) (bi.of (nm:=iG)) (Sim.call (Sim.b F.tp (by kernel_rfl) F.n_range F.b_range) (SimR.of (SimA.cons (Sim.call (Sim.b F.tp (by kernel_rfl) F.n_len F.b_len) (SimR.of (SimA.cons Sim.v SimA.nil)) (OkC.len F.hz) (KeepF.builtin _)) SimA.nil)) OkC.range1 (KeepF.type _)) (SimG.v inj1) (Tgt.var 61) eM.nil (SimI.elt rfl (Sim.comp F.hz (by decide) (fr:=[98,61]) (.inl rfl) (bi.of (nm:=iG)) Sim.v (SimG.tup (by decide) (SimGs.cons (SimG.v inj1) (SimGs.cons (SimG.v inj1) SimGs.nil)) (λz=>rfl) rfl (iP [56,57])) (Tgt.tup (by decide+kernel)) (eM.one (SimT.and2 (SimT.cmp ok_eq (Sim.item Sim.v Sim.v (λz z=>⟨_,rfl⟩)) Sim.v) (SimT.cmp ok_ne (Sim.item Sim.v Sim.v (λz z=>⟨_,rfl⟩)) Sim.v))) (SimI.elt rfl (Sim.item Sim.v Sim.v (λz z=>⟨_,rfl⟩))) (by decide+kernel) (λz z=>rfl))) (by decide+kernel) (λz z=>rfl) (λenv h=>by cases env;cases h;rfl))
 (SimSs.cons (SimS.asg (Sim.call (Sim.g F.tp (by kernel_rfl) F.g__law_stage) (SimR.of (SimA.cons Sim.v SimA.nil)) ((h_law_stage).up (by decide)).c (KeepF.inK F.tp.kin F.kp_law_stage)) (SimG.tup (by decide) (SimGs.cons (SimG.v inj1) (SimGs.cons (SimG.v inj1) (SimGs.cons (SimG.v inj1) SimGs.nil))) (λz=>rfl) rfl (iP [79,80,82])))
 (SimSs.cons (SimS.asgN (i:=99) inj1 rfl (by kernel_rfl) (Sim.new SimA.nil) (λenv h=>by cases env;cases h;rfl))
 (SimSs.cons (SimS.for F.hz (by decide) Sim.v (SimG.v inj1)
 (SimSs.cons (SimS.iff (SimT.cmp (ok_notIn F.hz) Sim.v Sim.v)
 (SimSs.cons SimS.brk
 SimSs.nil)
 SimSs.nil)
 (SimSs.cons (SimS.exp (Sim.meth (Meth.list PySem.F.slot_list_append PySem.F.type_list_append) Sim.v (SimR.of (SimA.cons (Sim.tup (SimA.cons (Sim.meth (Meth.list PySem.F.slot_list_index PySem.F.type_list_index) Sim.v (SimR.of (SimA.cons Sim.v SimA.nil)) OkC.indexD (KeepF.builtin _)) SimA.nil)) SimA.nil)) OkC.append (KeepF.builtin _)))
 SimSs.nil)) (λz z=>rfl) (eE 100))
 (SimSs.cons (SimS.iff (SimT.or3 (SimT.cmp ok_ne Sim.v Sim.v) (SimT.cmp ok_isNot Sim.v (Sim.cmp ok_isNot Sim.v Sim.cNone rfl)) (SimT.cmp ok_ne Sim.v (Sim.call (Sim.g F.tp (by kernel_rfl) F.g__law_ring) (SimR.of (SimA.cons Sim.v SimA.nil)) ((h_law_ring).up (by decide)).c (KeepF.inK F.tp.kin F.kp_law_ring))))
 (SimSs.cons (SimS.ret Sim.cBool)
 SimSs.nil)
 SimSs.nil)
 (SimSs.cons (SimS.iff (SimT.cmp ok_is Sim.v Sim.cNone)
 (SimSs.cons (SimS.ret (Sim.cmp ok_eq (Sim.call (Sim.b F.tp (by kernel_rfl) F.n_len F.b_len) (SimR.of (SimA.cons Sim.v SimA.nil)) (OkC.len F.hz) (KeepF.builtin _)) (Sim.call (Sim.b F.tp (by kernel_rfl) F.n_len F.b_len) (SimR.of (SimA.cons Sim.v SimA.nil)) (OkC.len F.hz) (KeepF.builtin _)) rfl))
 SimSs.nil)
 SimSs.nil)
 (SimSs.cons (SimS.asgN (i:=101) inj1 rfl (by kernel_rfl) (Sim.call (Sim.b F.tp (by kernel_rfl) F.n_sorted F.b_sorted) (SimR.of (SimA.cons (Sim.comp F.hz (by decide) (fr:=[96]) (.inr ⟨_,_,_,rfl⟩) (bi.of (nm:=iG)) (Sim.cut Sim.v (SimO.some Sim.cInt) SimO.none SimO.none (λz z=>⟨_,rfl⟩)) (SimG.v inj1) (Tgt.var 61) eM.nil (SimI.gen F.hz (by decide) rfl (.inl rfl) (Sim.item Sim.v Sim.v (λz z=>⟨_,rfl⟩)) (SimG.v inj1) (Tgt.var 52) eM.nil (SimI.elt rfl Sim.v) (by decide+kernel) (λz z=>rfl)) (by decide+kernel) (λz z=>rfl)) SimA.nil)) OkC.sortInts (KeepF.builtin _)) (λenv h=>by cases env;cases h;rfl))
 (SimSs.cons (SimS.asgN (i:=96) inj1 rfl (by kernel_rfl) (Sim.bin ok_add (Sim.comp F.hz (by decide) (fr:=[96,79]) (.inl rfl) (bi.of (nm:=iG)) (Sim.call (Sim.b F.tp (by kernel_rfl) F.n_range F.b_range) (SimR.of (SimA.cons (Sim.call (Sim.b F.tp (by kernel_rfl) F.n_len F.b_len) (SimR.of (SimA.cons Sim.v SimA.nil)) (OkC.len F.hz) (KeepF.builtin _)) SimA.nil)) OkC.range1 (KeepF.type _)) (SimG.v inj1) (Tgt.var 61) (eM.one (SimT.cmp (ok_notIn F.hz) Sim.v Sim.v)) (SimI.elt rfl (Sim.item Sim.v Sim.v (λz z=>⟨_,rfl⟩))) (by decide+kernel) (λz z=>rfl)) (Sim.lst (SimA.cons Sim.v SimA.nil))) (λenv h=>by cases env;cases h;rfl))
 SimSs.nil))))))))) (λz z=>rfl) (eE 97))
 (SimSs.cons (SimS.ret Sim.cBool)
 SimSs.nil)))))))))))
end Mine
namespace Mine.Hd
open PySem PySem.W PySem.W.X PySem.Calls PyProof.Rows
noncomputable def kT(i j:Nat):Stmt:=bV (dO (bV bR i)) j
noncomputable def s(x:Str)(t:Tok):Value:=.str x t
noncomputable def e(P:nB)(x:Str)(t:Tok)(v:Value):DictEntry:=⟨PyData.keyHash P x,.str x t,v⟩
noncomputable def tu(l:List Value):Obj:={cls:=.type "tuple",data:=.seq ⟨l⟩}
noncomputable def fi(l:List Value):Obj:={cls:=.none,data:=.fields ⟨l⟩}
noncomputable def co(a b c:Str)(n:Nat)(l x f y:Int)(z:Int)(bb:Value):List Value→Obj
 | [r1,r2,v1,v2,v3,v4]=>{cls:=.type "code",data:=.fields #[.str a n,.str b (n+1),.str c (n+2),.int l 0,.int x 0,.int 0 0,.int 0 0,.int f 0,r1,bb,.int y 0,r2,v1,v2,v3,v4,.int z 0,.int l 0,.str c (z.toNat+1)]}
 |_=>default
noncomputable def fo(st:Stmt)(n q:Str)(g:Addr)(d pm cd:Value):FuncData:=⟨n,q,Bm st,.stmts (dO st),ml st,g,[],d,.none,.none,pm,none,cd,.none,0⟩
noncomputable def GA(P:nB):Obj:=fi []
noncomputable def O(P:nB):List Obj:=[
boot_o_0 P,
boot_o_1 P,
boot_o_2 P,
⟨(.type "dict"),none,(.dict #[e P "__name__" 165 (s "law_mr0354_02" 481),e P "__doc__" 166 .none,e P "__package__" 167 .none,e P "__loader__" 168 (.builtin "__main__.__loader__#opaque"),e P "__spec__" 169 .none,e P "__annotations__" 170 (.ref 6),e P "__builtins__" 171 (.ref 4),e P "__file__" 173 (s "/claim/cut.py" 172),e P "__cached__" 174 .none,e P "_wall" 193 (.ref 21),e P "_NODE_OUT" 198 (.int (-1) 197),e P "_NODE_DONE" 201 (.int (-2) 200),e P "_NodeInfo" 238 (.ref 40),e P "CycleError" 256 (.ref 55),e P "TopologicalSorter" 375 (.ref 137),e P "Whitespace" 480 (.ref 203),e P "_law_text" 492 (.ref 214),e P "_law_column" 502 (.ref 221),e P "_law_blocks" 508 (.ref 226),e P "_law_witness" 514 (.ref 231),e P "_law_ring" 520 (.ref 236),e P "_law_stage" 532 (.ref 243),e P "law" 538 (.ref 248)] 23),#[]⟩,
boot_o_4 P,
boot_o_5 P,
boot_o_6 P,
boot_o_7 P,
boot_o_8 P,
boot_o_9 P,
boot_o_10 P,
tu [],
fi [(.int 1 0),(.int 0 0),(.ref 20),(.int 7 0),(.int 0 0),(.ref 27),(.int 14 0),(.int 0 0),(.ref 51),(.int 16 0),(.int 0 0),(.ref 64),(.int 123 0),(.int 0 0),(.ref 147),(.int 185 0),(.int 0 0),(.ref 213),(.int 192 0),(.int 0 0),(.ref 220),(.int 197 0),(.int 0 0),(.ref 225),(.int 205 0),(.int 0 0),(.ref 230),(.int 209 0),(.int 0 0),(.ref 235),(.int 224 0),(.int 0 0),(.ref 242),(.int 239 0),(.int 0 0),(.ref 247)],
co "<module>" "<module>" "/claim/cut.py" 182 1 0 0 181 185 (.bool false) [(.ref 11),(.ref 12),.none,.none,.none,.none],
⟨(.type "frame"),none,.plain,#[(some (.ref 13)),(some (.ref 3)),(some (.ref 3)),none,(some (s "__main__" 164)),none,(some (.ref 0))]⟩,
tu [],
fi [],
tu [(s "k" 190)],
tu [],
⟨.none,none,(.func (fo (bV bR 0) "_wall" "_wall" 0 .none .none .none)),#[]⟩,
co "_wall" "_wall" "/claim/cut.py" 187 1 1 3 181 191 (.bool true) [(.ref 15),(.ref 16),.none,(.ref 17),(.ref 18),(.ref 19)],
⟨(.type "function"),none,(.func (fo (bV bR 0) "_wall" "_wall" 3 .none (s "__main__" 164) (.ref 20))),#[]⟩,
tu [],
⟨(.type "builtin_function_or_method"),none,(.fields #[(.builtin "type.__prepare__"),(.type "type")]),#[]⟩,
⟨(.type "dict"),none,(.dict #[e P "__module__" 209 (s "cpy313.graphlib" 194),e P "__qualname__" 211 (s "_NodeInfo" 210),e P "__firstlineno__" 213 (.int 7 212),e P "__slots__" 217 (.ref 29),e P "__init__" 225 (.ref 36),e P "__static_attributes__" 229 (.ref 37)] 6),#[]⟩,
tu [],
fi [(.int 10 0),(.int 4 0),(.ref 35)],
co "_NodeInfo" "_NodeInfo" "/claim/cut.py" 204 7 0 0 181 207 (.bool false) [(.ref 25),(.ref 26),.none,.none,.none,.none],
⟨(.type "frame"),none,.plain,#[(some (.ref 27)),(some (.ref 3)),(some (.ref 24)),none,(some (s "cpy313.graphlib" 194)),none,(some (.ref 0))]⟩,
tu [(s "node" 214),(s "npredecessors" 215),(s "successors" 216)],
tu [],
fi [],
tu [(s "self" 221),(s "node" 222)],
tu [],
⟨.none,none,(.func (fo (kT 4 1) "__init__" "_NodeInfo.__init__" 0 .none .none .none)),#[]⟩,
co "__init__" "_NodeInfo.__init__" "/claim/cut.py" 218 10 2 3 181 223 (.bool true) [(.ref 30),(.ref 31),.none,(.ref 32),(.ref 33),(.ref 34)],
⟨(.type "function"),none,(.func (fo (kT 4 1) "__init__" "_NodeInfo.__init__" 3 .none (s "cpy313.graphlib" 194) (.ref 35))),#[]⟩,
tu [(s "node" 226),(s "npredecessors" 227),(s "successors" 228)],
⟨(.type "list"),none,(.seq #[(s "node" 214),(s "npredecessors" 215),(s "successors" 216)] 1),#[]⟩,
⟨(.type "dict"),none,(.dict #[e P "__module__" 209 (s "cpy313.graphlib" 194),e P "__firstlineno__" 213 (.int 7 212),e P "__slots__" 217 (.ref 29),e P "__init__" 225 (.ref 36),e P "__static_attributes__" 229 (.ref 37),e P "node" 231 (.ref 41),e P "npredecessors" 233 (.ref 42),e P "successors" 235 (.ref 43),e P "__doc__" 236 .none] 5),#[]⟩,
⟨(.type "type"),none,(.cls ⟨"_NodeInfo",[(.type "object")],[(.ref 40),(.type "object")],39,"_NodeInfo",false,["node","npredecessors","successors"],[],false,none,false⟩),#[none,none,(some (s "_NodeInfo" 202)),(some (s "_NodeInfo" 210)),(some (.builtin "object.__new__")),(some (.bool false))]⟩,
⟨(.type "member_descriptor"),none,(.fields #[(s "node" 230),(.ref 40),(.builtin "proto.slot"),(.builtin "proto.slot#set"),(.int 2 0)]),#[]⟩,
⟨(.type "member_descriptor"),none,(.fields #[(s "npredecessors" 232),(.ref 40),(.builtin "proto.slot"),(.builtin "proto.slot#set"),(.int 1 0)]),#[]⟩,
⟨(.type "member_descriptor"),none,(.fields #[(s "successors" 234),(.ref 40),(.builtin "proto.slot"),(.builtin "proto.slot#set"),(.int 0 0)]),#[]⟩,
⟨(.type "super"),none,(.fields #[(.ref 40),(.ref 40),(.ref 40)]),#[]⟩,
⟨(.type "builtin_function_or_method"),none,(.fields #[(.builtin "object.__init_subclass__"),(.ref 40)]),#[]⟩,
tu [(.type "ValueError")],
⟨(.type "builtin_function_or_method"),none,(.fields #[(.builtin "type.__prepare__"),(.type "type")]),#[]⟩,
⟨(.type "dict"),none,(.dict #[e P "__module__" 246 (s "cpy313.graphlib" 194),e P "__qualname__" 248 (s "CycleError" 247),e P "__firstlineno__" 250 (.int 14 249),e P "__static_attributes__" 251 (.ref 53)] 4),#[]⟩,
tu [],
fi [],
co "CycleError" "CycleError" "/claim/cut.py" 241 14 0 0 181 244 (.bool false) [(.ref 49),(.ref 50),.none,.none,.none,.none],
⟨(.type "frame"),none,.plain,#[(some (.ref 51)),(some (.ref 3)),(some (.ref 48)),none,(some (s "cpy313.graphlib" 194)),none,(some (.ref 0))]⟩,
tu [],
⟨(.type "dict"),none,(.dict #[e P "__module__" 246 (s "cpy313.graphlib" 194),e P "__firstlineno__" 250 (.int 14 249),e P "__static_attributes__" 251 (.ref 53),e P "__weakref__" 253 (.ref 56),e P "__doc__" 254 .none] 3),#[]⟩,
⟨(.type "type"),none,(.cls ⟨"CycleError",[(.type "ValueError")],[(.ref 55),(.type "ValueError"),(.type "Exception"),(.type "BaseException"),(.type "object")],54,"CycleError",true,[],[],false,none,false⟩),#[(some (.ref 46)),none,(some (s "CycleError" 239)),(some (s "CycleError" 247)),(some (.builtin "ValueError.__new__")),(some (.bool true))]⟩,
⟨(.type "getset_descriptor"),none,(.fields #[(s "__weakref__" 252),(.ref 55),(.builtin "ExceptionGroup.__weakref__"),.none]),#[]⟩,
⟨(.type "super"),none,(.fields #[(.ref 55),(.ref 55),(.ref 55)]),#[]⟩,
⟨(.type "builtin_function_or_method"),none,(.fields #[(.builtin "object.__init_subclass__"),(.ref 55)]),#[]⟩,
tu [],
⟨(.type "builtin_function_or_method"),none,(.fields #[(.builtin "type.__prepare__"),(.type "type")]),#[]⟩,
⟨(.type "dict"),none,(.dict #[e P "__module__" 264 (s "cpy313.graphlib" 194),e P "__qualname__" 266 (s "TopologicalSorter" 265),e P "__firstlineno__" 268 (.int 16 267),e P "__init__" 278 (.ref 73),e P "_get_nodeinfo" 287 (.ref 80),e P "add" 299 (.ref 87),e P "prepare" 305 (.ref 92),e P "get_ready" 315 (.ref 99),e P "is_active" 322 (.ref 106),e P "__bool__" 329 (.ref 113),e P "done" 343 (.ref 120),e P "_find_cycle" 356 (.ref 127),e P "static_order" 363 (.ref 134),e P "__static_attributes__" 368 (.ref 135)] 14),#[]⟩,
tu [],
fi [(.int 18 0),(.int 4 0),(.ref 72),(.int 27 0),(.int 4 0),(.ref 79),(.int 32 0),(.int 4 0),(.ref 86),(.int 41 0),(.int 4 0),(.ref 91),(.int 49 0),(.int 4 0),(.ref 98),(.int 60 0),(.int 4 0),(.ref 105),(.int 65 0),(.int 4 0),(.ref 112),(.int 68 0),(.int 4 0),(.ref 119),(.int 91 0),(.int 4 0),(.ref 126),(.int 120 0),(.int 4 0),(.ref 133)],
co "TopologicalSorter" "TopologicalSorter" "/claim/cut.py" 259 16 0 0 181 262 (.bool false) [(.ref 62),(.ref 63),.none,.none,.none,.none],
⟨(.type "frame"),none,.plain,#[(some (.ref 64)),(some (.ref 3)),(some (.ref 61)),none,(some (s "cpy313.graphlib" 194)),none,(some (.ref 0))]⟩,
tu [.none],
tu [],
fi [],
tu [(s "self" 272),(s "graph" 273),(s "node" 274),(s "predecessors" 275)],
tu [],
⟨.none,none,(.func (fo (kT 6 0) "__init__" "TopologicalSorter.__init__" 0 .none .none .none)),#[]⟩,
co "__init__" "TopologicalSorter.__init__" "/claim/cut.py" 269 18 2 3 181 276 (.bool true) [(.ref 67),(.ref 68),.none,(.ref 69),(.ref 70),(.ref 71)],
⟨(.type "function"),none,(.func (fo (kT 6 0) "__init__" "TopologicalSorter.__init__" 3 (.ref 66) (s "cpy313.graphlib" 194) (.ref 72))),#[]⟩,
tu [],
fi [],
tu [(s "self" 282),(s "node" 283),(s "result" 284)],
tu [],
⟨.none,none,(.func (fo (kT 6 1) "_get_nodeinfo" "TopologicalSorter._get_nodeinfo" 0 .none .none .none)),#[]⟩,
co "_get_nodeinfo" "TopologicalSorter._get_nodeinfo" "/claim/cut.py" 279 27 2 3 181 285 (.bool true) [(.ref 74),(.ref 75),.none,(.ref 76),(.ref 77),(.ref 78)],
⟨(.type "function"),none,(.func (fo (kT 6 1) "_get_nodeinfo" "TopologicalSorter._get_nodeinfo" 3 .none (s "cpy313.graphlib" 194) (.ref 79))),#[]⟩,
tu [],
fi [],
tu [(s "self" 291),(s "node" 292),(s "predecessors" 293),(s "nodeinfo" 294),(s "pred" 295),(s "pred_info" 296)],
tu [],
⟨.none,none,(.func (fo (kT 6 2) "add" "TopologicalSorter.add" 0 .none .none .none)),#[]⟩,
co "add" "TopologicalSorter.add" "/claim/cut.py" 288 32 2 7 181 297 (.bool true) [(.ref 81),(.ref 82),.none,(.ref 83),(.ref 84),(.ref 85)],
⟨(.type "function"),none,(.func (fo (kT 6 2) "add" "TopologicalSorter.add" 3 .none (s "cpy313.graphlib" 194) (.ref 86))),#[]⟩,
tu [],
fi [],
⟨.none,none,(.func (fo (kT 6 3) "prepare" "TopologicalSorter.prepare" 0 .none .none .none)),#[]⟩,
co "prepare" "TopologicalSorter.prepare" "/claim/cut.py" 300 41 1 3 181 303 (.bool true) [(.ref 88),(.ref 89),.none,.none,.none,(.ref 90)],
⟨(.type "function"),none,(.func (fo (kT 6 3) "prepare" "TopologicalSorter.prepare" 3 .none (s "cpy313.graphlib" 194) (.ref 91))),#[]⟩,
tu [],
fi [],
tu [(s "self" 309),(s "result" 310),(s "n2i" 311),(s "node" 312)],
tu [],
⟨.none,none,(.func (fo (kT 6 4) "get_ready" "TopologicalSorter.get_ready" 0 .none .none .none)),#[]⟩,
co "get_ready" "TopologicalSorter.get_ready" "/claim/cut.py" 306 49 1 3 181 313 (.bool true) [(.ref 93),(.ref 94),.none,(.ref 95),(.ref 96),(.ref 97)],
⟨(.type "function"),none,(.func (fo (kT 6 4) "get_ready" "TopologicalSorter.get_ready" 3 .none (s "cpy313.graphlib" 194) (.ref 98))),#[]⟩,
tu [],
fi [],
tu [(s "self" 319)],
tu [],
⟨.none,none,(.func (fo (kT 6 5) "is_active" "TopologicalSorter.is_active" 0 .none .none .none)),#[]⟩,
co "is_active" "TopologicalSorter.is_active" "/claim/cut.py" 316 60 1 3 181 320 (.bool true) [(.ref 100),(.ref 101),.none,(.ref 102),(.ref 103),(.ref 104)],
⟨(.type "function"),none,(.func (fo (kT 6 5) "is_active" "TopologicalSorter.is_active" 3 .none (s "cpy313.graphlib" 194) (.ref 105))),#[]⟩,
tu [],
fi [],
tu [(s "self" 326)],
tu [],
⟨.none,none,(.func (fo (kT 6 6) "__bool__" "TopologicalSorter.__bool__" 0 .none .none .none)),#[]⟩,
co "__bool__" "TopologicalSorter.__bool__" "/claim/cut.py" 323 65 1 3 181 327 (.bool true) [(.ref 107),(.ref 108),.none,(.ref 109),(.ref 110),(.ref 111)],
⟨(.type "function"),none,(.func (fo (kT 6 6) "__bool__" "TopologicalSorter.__bool__" 3 .none (s "cpy313.graphlib" 194) (.ref 112))),#[]⟩,
tu [],
fi [],
tu [(s "self" 333),(s "nodes" 334),(s "n2i" 335),(s "node" 336),(s "nodeinfo" 337),(s "stat" 338),(s "successor" 339),(s "successor_info" 340)],
tu [],
⟨.none,none,(.func (fo (kT 6 7) "done" "TopologicalSorter.done" 0 .none .none .none)),#[]⟩,
co "done" "TopologicalSorter.done" "/claim/cut.py" 330 68 1 7 181 341 (.bool true) [(.ref 114),(.ref 115),.none,(.ref 116),(.ref 117),(.ref 118)],
⟨(.type "function"),none,(.func (fo (kT 6 7) "done" "TopologicalSorter.done" 3 .none (s "cpy313.graphlib" 194) (.ref 119))),#[]⟩,
tu [],
fi [],
tu [(s "self" 347),(s "n2i" 348),(s "stack" 349),(s "itstack" 350),(s "seen" 351),(s "node2stacki" 352),(s "node" 353)],
tu [],
⟨.none,none,(.func (fo (kT 6 8) "_find_cycle" "TopologicalSorter._find_cycle" 0 .none .none .none)),#[]⟩,
co "_find_cycle" "TopologicalSorter._find_cycle" "/claim/cut.py" 344 91 1 3 181 354 (.bool true) [(.ref 121),(.ref 122),.none,(.ref 123),(.ref 124),(.ref 125)],
⟨(.type "function"),none,(.func (fo (kT 6 8) "_find_cycle" "TopologicalSorter._find_cycle" 3 .none (s "cpy313.graphlib" 194) (.ref 126))),#[]⟩,
tu [],
fi [],
tu [(s "self" 360)],
tu [],
⟨.none,none,(.func (fo (kT 6 9) "static_order" "TopologicalSorter.static_order" 0 .none .none .none)),#[]⟩,
co "static_order" "TopologicalSorter.static_order" "/claim/cut.py" 357 120 1 3 181 361 (.bool true) [(.ref 128),(.ref 129),.none,(.ref 130),(.ref 131),(.ref 132)],
⟨(.type "function"),none,(.func (fo (kT 6 9) "static_order" "TopologicalSorter.static_order" 3 .none (s "cpy313.graphlib" 194) (.ref 133))),#[]⟩,
tu [(s "_nfinished" 364),(s "_node2info" 365),(s "_npassedout" 366),(s "_ready_nodes" 367)],
⟨(.type "dict"),none,(.dict #[e P "__module__" 264 (s "cpy313.graphlib" 194),e P "__firstlineno__" 268 (.int 16 267),e P "__init__" 278 (.ref 73),e P "_get_nodeinfo" 287 (.ref 80),e P "add" 299 (.ref 87),e P "prepare" 305 (.ref 92),e P "get_ready" 315 (.ref 99),e P "is_active" 322 (.ref 106),e P "__bool__" 329 (.ref 113),e P "done" 343 (.ref 120),e P "_find_cycle" 356 (.ref 127),e P "static_order" 363 (.ref 134),e P "__static_attributes__" 368 (.ref 135),e P "__dict__" 370 (.ref 138),e P "__weakref__" 372 (.ref 139),e P "__doc__" 373 .none] 4),#[]⟩,
⟨(.type "type"),none,(.cls ⟨"TopologicalSorter",[(.type "object")],[(.ref 137),(.type "object")],136,"TopologicalSorter",true,[],[],false,none,false⟩),#[none,none,(some (s "TopologicalSorter" 257)),(some (s "TopologicalSorter" 265)),(some (.builtin "object.__new__")),(some (.bool true))]⟩,
⟨(.type "getset_descriptor"),none,(.fields #[(s "__dict__" 369),(.ref 137),(.builtin "function.__dict__"),(.builtin "function.__dict__#set")]),#[]⟩,
⟨(.type "getset_descriptor"),none,(.fields #[(s "__weakref__" 371),(.ref 137),(.builtin "ExceptionGroup.__weakref__"),.none]),#[]⟩,
⟨(.type "super"),none,(.fields #[(.ref 137),(.ref 137),(.ref 137)]),#[]⟩,
⟨(.type "builtin_function_or_method"),none,(.fields #[(.builtin "object.__init_subclass__"),(.ref 137)]),#[]⟩,
tu [],
⟨(.type "builtin_function_or_method"),none,(.fields #[(.builtin "type.__prepare__"),(.type "type")]),#[]⟩,
⟨(.type "dict"),none,(.dict #[e P "__module__" 385 (s "cpy313.tabnanny" 376),e P "__qualname__" 387 (s "Whitespace" 386),e P "__firstlineno__" 389 (.int 123 388),e P "S" 393 (s " " 391),e P "T" 394 (s "\u0009" 392),e P "__init__" 409 (.ref 158),e P "longest_run_of_spaces" 418 (.ref 165),e P "indent_level" 430 (.ref 172),e P "equal" 438 (.ref 179),e P "not_equal_witness" 446 (.ref 186),e P "less" 456 (.ref 193),e P "not_less_witness" 467 (.ref 200),e P "__static_attributes__" 473 (.ref 201)] 13),#[]⟩,
tu [],
fi [(.int 126 0),(.int 4 0),(.ref 157),(.int 149 0),(.int 4 0),(.ref 164),(.int 153 0),(.int 4 0),(.ref 171),(.int 160 0),(.int 4 0),(.ref 178),(.int 163 0),(.int 4 0),(.ref 185),(.int 166 0),(.int 4 0),(.ref 192),(.int 177 0),(.int 4 0),(.ref 199)],
co "Whitespace" "Whitespace" "/claim/cut.py" 380 123 0 0 181 383 (.bool false) [(.ref 145),(.ref 146),.none,.none,.none,.none],
⟨(.type "frame"),none,.plain,#[(some (.ref 147)),(some (.ref 3)),(some (.ref 144)),none,(some (s "cpy313.tabnanny" 376)),none,(some (.ref 0))]⟩,
⟨(.type "str_ascii_iterator"),none,(.fields #[.none,(.int 2 0)]),#[]⟩,
tu [],
⟨(.type "StopIteration"),none,(.fields #[(.ref 150),.none,.none,.none,(.bool false),.none]),#[]⟩,
tu [],
fi [],
tu [(s "self" 398),(s "ws" 399),(s "S" 400),(s "T" 401),(s "count" 402),(s "b" 403),(s "n" 404),(s "nt" 405),(s "ch" 406)],
tu [],
⟨.none,none,(.func (fo (kT 8 1) "__init__" "Whitespace.__init__" 0 .none .none .none)),#[]⟩,
co "__init__" "Whitespace.__init__" "/claim/cut.py" 395 126 2 3 181 407 (.bool true) [(.ref 152),(.ref 153),.none,(.ref 154),(.ref 155),(.ref 156)],
⟨(.type "function"),none,(.func (fo (kT 8 1) "__init__" "Whitespace.__init__" 3 .none (s "cpy313.tabnanny" 376) (.ref 157))),#[]⟩,
tu [],
fi [],
tu [(s "self" 413),(s "count" 414),(s "trailing" 415)],
tu [],
⟨.none,none,(.func (fo (kT 8 2) "longest_run_of_spaces" "Whitespace.longest_run_of_spaces" 0 .none .none .none)),#[]⟩,
co "longest_run_of_spaces" "Whitespace.longest_run_of_spaces" "/claim/cut.py" 410 149 1 3 181 416 (.bool true) [(.ref 159),(.ref 160),.none,(.ref 161),(.ref 162),(.ref 163)],
⟨(.type "function"),none,(.func (fo (kT 8 2) "longest_run_of_spaces" "Whitespace.longest_run_of_spaces" 3 .none (s "cpy313.tabnanny" 376) (.ref 164))),#[]⟩,
tu [],
fi [],
tu [(s "self" 422),(s "tabsize" 423),(s "count" 424),(s "trailing" 425),(s "il" 426),(s "i" 427)],
tu [],
⟨.none,none,(.func (fo (kT 8 3) "indent_level" "Whitespace.indent_level" 0 .none .none .none)),#[]⟩,
co "indent_level" "Whitespace.indent_level" "/claim/cut.py" 419 153 2 3 181 428 (.bool true) [(.ref 166),(.ref 167),.none,(.ref 168),(.ref 169),(.ref 170)],
⟨(.type "function"),none,(.func (fo (kT 8 3) "indent_level" "Whitespace.indent_level" 3 .none (s "cpy313.tabnanny" 376) (.ref 171))),#[]⟩,
tu [],
fi [],
tu [(s "self" 434),(s "other" 435)],
tu [],
⟨.none,none,(.func (fo (kT 8 4) "equal" "Whitespace.equal" 0 .none .none .none)),#[]⟩,
co "equal" "Whitespace.equal" "/claim/cut.py" 431 160 2 3 181 436 (.bool true) [(.ref 173),(.ref 174),.none,(.ref 175),(.ref 176),(.ref 177)],
⟨(.type "function"),none,(.func (fo (kT 8 4) "equal" "Whitespace.equal" 3 .none (s "cpy313.tabnanny" 376) (.ref 178))),#[]⟩,
tu [],
fi [],
tu [(s "self" 442),(s "other" 443)],
tu [],
⟨.none,none,(.func (fo (kT 8 5) "not_equal_witness" "Whitespace.not_equal_witness" 0 .none .none .none)),#[]⟩,
co "not_equal_witness" "Whitespace.not_equal_witness" "/claim/cut.py" 439 163 2 3 181 444 (.bool true) [(.ref 180),(.ref 181),.none,(.ref 182),(.ref 183),(.ref 184)],
⟨(.type "function"),none,(.func (fo (kT 8 5) "not_equal_witness" "Whitespace.not_equal_witness" 3 .none (s "cpy313.tabnanny" 376) (.ref 185))),#[]⟩,
tu [],
fi [],
tu [(s "self" 450),(s "other" 451),(s "n" 452),(s "ts" 453)],
tu [],
⟨.none,none,(.func (fo (kT 8 6) "less" "Whitespace.less" 0 .none .none .none)),#[]⟩,
co "less" "Whitespace.less" "/claim/cut.py" 447 166 2 3 181 454 (.bool true) [(.ref 187),(.ref 188),.none,(.ref 189),(.ref 190),(.ref 191)],
⟨(.type "function"),none,(.func (fo (kT 8 6) "less" "Whitespace.less" 3 .none (s "cpy313.tabnanny" 376) (.ref 192))),#[]⟩,
tu [],
fi [],
tu [(s "self" 460),(s "other" 461),(s "n" 462),(s "a" 463),(s "ts" 464)],
tu [],
⟨.none,none,(.func (fo (kT 8 7) "not_less_witness" "Whitespace.not_less_witness" 0 .none .none .none)),#[]⟩,
co "not_less_witness" "Whitespace.not_less_witness" "/claim/cut.py" 457 177 2 3 181 465 (.bool true) [(.ref 194),(.ref 195),.none,(.ref 196),(.ref 197),(.ref 198)],
⟨(.type "function"),none,(.func (fo (kT 8 7) "not_less_witness" "Whitespace.not_less_witness" 3 .none (s "cpy313.tabnanny" 376) (.ref 199))),#[]⟩,
tu [(s "is_simple" 468),(s "n" 469),(s "norm" 470),(s "nt" 471),(s "raw" 472)],
⟨(.type "dict"),none,(.dict #[e P "__module__" 385 (s "cpy313.tabnanny" 376),e P "__firstlineno__" 389 (.int 123 388),e P "S" 393 (s " " 391),e P "T" 394 (s "\u0009" 392),e P "__init__" 409 (.ref 158),e P "longest_run_of_spaces" 418 (.ref 165),e P "indent_level" 430 (.ref 172),e P "equal" 438 (.ref 179),e P "not_equal_witness" 446 (.ref 186),e P "less" 456 (.ref 193),e P "not_less_witness" 467 (.ref 200),e P "__static_attributes__" 473 (.ref 201),e P "__dict__" 475 (.ref 204),e P "__weakref__" 477 (.ref 205),e P "__doc__" 478 .none] 4),#[]⟩,
⟨(.type "type"),none,(.cls ⟨"Whitespace",[(.type "object")],[(.ref 203),(.type "object")],202,"Whitespace",true,[],[],false,none,false⟩),#[none,none,(some (s "Whitespace" 378)),(some (s "Whitespace" 386)),(some (.builtin "object.__new__")),(some (.bool true))]⟩,
⟨(.type "getset_descriptor"),none,(.fields #[(s "__dict__" 474),(.ref 203),(.builtin "function.__dict__"),(.builtin "function.__dict__#set")]),#[]⟩,
⟨(.type "getset_descriptor"),none,(.fields #[(s "__weakref__" 476),(.ref 203),(.builtin "ExceptionGroup.__weakref__"),.none]),#[]⟩,
⟨(.type "super"),none,(.fields #[(.ref 203),(.ref 203),(.ref 203)]),#[]⟩,
⟨(.type "builtin_function_or_method"),none,(.fields #[(.builtin "object.__init_subclass__"),(.ref 203)]),#[]⟩,
tu [],
fi [],
tu [(s "number" 486),(s "text" 487),(s "rows" 488),(s "row" 489)],
tu [],
⟨.none,none,(.func (fo (bV bR 10) "_law_text" "_law_text" 0 .none .none .none)),#[]⟩,
co "_law_text" "_law_text" "/claim/cut.py" 483 185 1 3 181 490 (.bool true) [(.ref 208),(.ref 209),.none,(.ref 210),(.ref 211),(.ref 212)],
⟨(.type "function"),none,(.func (fo (bV bR 10) "_law_text" "_law_text" 3 .none (s "law_mr0354_02" 481) (.ref 213))),#[]⟩,
tu [],
fi [],
tu [(s "text" 496),(s "size" 497),(s "column" 498),(s "sign" 499)],
tu [],
⟨.none,none,(.func (fo (bV bR 11) "_law_column" "_law_column" 0 .none .none .none)),#[]⟩,
co "_law_column" "_law_column" "/claim/cut.py" 493 192 2 3 181 500 (.bool true) [(.ref 215),(.ref 216),.none,(.ref 217),(.ref 218),(.ref 219)],
⟨(.type "function"),none,(.func (fo (bV bR 11) "_law_column" "_law_column" 3 .none (s "law_mr0354_02" 481) (.ref 220))),#[]⟩,
tu [],
fi [],
⟨.none,none,(.func (fo (bV bR 12) "_law_blocks" "_law_blocks" 0 .none .none .none)),#[]⟩,
co "_law_blocks" "_law_blocks" "/claim/cut.py" 503 197 1 3 181 506 (.bool true) [(.ref 222),(.ref 223),.none,.none,.none,(.ref 224)],
⟨(.type "function"),none,(.func (fo (bV bR 12) "_law_blocks" "_law_blocks" 3 .none (s "law_mr0354_02" 481) (.ref 225))),#[]⟩,
tu [],
fi [],
⟨.none,none,(.func (fo (bV bR 13) "_law_witness" "_law_witness" 0 .none .none .none)),#[]⟩,
co "_law_witness" "_law_witness" "/claim/cut.py" 509 205 3 3 181 512 (.bool true) [(.ref 227),(.ref 228),.none,.none,.none,(.ref 229)],
⟨(.type "function"),none,(.func (fo (bV bR 13) "_law_witness" "_law_witness" 3 .none (s "law_mr0354_02" 481) (.ref 230))),#[]⟩,
tu [],
fi [],
⟨.none,none,(.func (fo (bV bR 14) "_law_ring" "_law_ring" 0 .none .none .none)),#[]⟩,
co "_law_ring" "_law_ring" "/claim/cut.py" 515 209 1 3 181 518 (.bool true) [(.ref 232),(.ref 233),.none,.none,.none,(.ref 234)],
⟨(.type "function"),none,(.func (fo (bV bR 14) "_law_ring" "_law_ring" 3 .none (s "law_mr0354_02" 481) (.ref 235))),#[]⟩,
tu [],
fi [],
tu [(s "heads" 524),(s "sorter" 525),(s "group" 526),(s "ring" 527),(s "raised" 528),(s "rounds" 529)],
tu [],
⟨.none,none,(.func (fo (bV bR 15) "_law_stage" "_law_stage" 0 .none .none .none)),#[]⟩,
co "_law_stage" "_law_stage" "/claim/cut.py" 521 224 1 3 181 530 (.bool true) [(.ref 237),(.ref 238),.none,(.ref 239),(.ref 240),(.ref 241)],
⟨(.type "function"),none,(.func (fo (bV bR 15) "_law_stage" "_law_stage" 3 .none (s "law_mr0354_02" 481) (.ref 242))),#[]⟩,
tu [],
fi [],
⟨.none,none,(.func (fo (bV bR 16) "law" "law" 0 .none .none .none)),#[]⟩,
co "law" "law" "/claim/cut.py" 533 239 1 3 181 536 (.bool true) [(.ref 244),(.ref 245),.none,.none,.none,(.ref 246)],
⟨(.type "function"),none,(.func (fo (bV bR 16) "law" "law" 3 .none (s "law_mr0354_02" 481) (.ref 247))),#[]⟩]
noncomputable def EK:List Obj→Nat→Option Obj
 | [],_=>none
 |o::_,0=>some o
 |_::l,n+1=>EK l n
noncomputable def bt(l:List Obj):Nat→Nat→Nat→BT
 |0,_,_=>.nil
 |n+1,a,b=>match EK l b with
  |none=>.nil
  |some o=>.node o (bt l n (2*a) (a+b)) (bt l n (2*a) (2*a+b))
noncomputable def ob(P:nB)(i:Nat):Obj:=match EK (O P) i with|some o=>o|none=>default
noncomputable def fdO(o:Obj):FuncData:=match o.data with| .func f=>f|_=>default
noncomputable def T0(P:nB):BT:=bt [boot_o_0 P,boot_o_1 P,boot_o_2 P,boot_o_3 P,boot_o_4 P,boot_o_5 P,boot_o_6 P,boot_o_7 P,boot_o_8 P,boot_o_9 P,boot_o_10 P,tu [],GA P,ob P 13,ob P 14] 9 1 0
noncomputable def T1(P:nB):BT:=bt (O P) 9 1 0
noncomputable def K(P:nB):Frag:=(az 249).zip (O P)
abbrev rw:=PySem.Challenge.rw_mr0354_02
abbrev row:OpenRow:=Bu rw
abbrev pr:Program:=(OpenRow.toRowW (Bu rw)).1
noncomputable def env:Env:={scope:=pr.main.scope,locals:=mainNs,globals:=mainNs,cells:=[],code:=.ref 13,frame:=some 14}
noncomputable def cd:Code:=.body (behindTheImports pr) env
noncomputable def S0(w:d5)(os:CO):SharedT:={tree:=T0 w.params,n:=15,life:={},gens:= #[],drawn:={},toks:=187,os:=os}
noncomputable def S1(w:d5)(os:CO):SharedT:={tree:=T1 w.params,n:=249,life:={},gens:= #[],drawn:={},toks:=539,os:=os}
noncomputable def H1(P:nB):Heap:=absHeap (T1 P) 249 {}
noncomputable abbrev p0:Pos:=⟨0,0,0,0⟩
noncomputable abbrev p1:Pos:=⟨239,0,277,16⟩
noncomputable abbrev CL:Option Value:=some (.ref 6)
theorem EZ:OpenLaw.wellSaid rw=true:=by
 rw[Fast.te9446332074065402090];kernel_rfl
theorem pre:∀w:d5,(λos=>topGo treeTable pr w 11 CL 12 ⟨lU w.params,#[],boot_drawn,boot_toks,os⟩ (topStub pr))=λos=>some ((S0 w os).abs,⟨denote treeTable cd,cd,p0,[topFrame p0]⟩):=by
 intro w;rw[Fast.te15667345088766844465,d8,Fast.te11892475500146522536];kernel_rfl
theorem Bl:∀w:d5,(λos=>segRun treeTable pr w 11 CL 1 1 (S0 w os).abs (blockOf (behindTheImports pr) env cd p0 [topFrame p0]))=λos=>some (.next,(S0 w os).abs,cd,p0):=by
 intro w;rw[Fast.te14374325043358763698,d8];kernel_rfl
noncomputable def Da(w:d5):Prop:=(λos=>segRunT treeTable pr w 11 CL 1 2000 (S0 w os) (piecesOf (behindTheImports pr) env cd p0 [topFrame p0]))=λos=>some (.next,S1 w os,cd,p1)
theorem DG(w:d5):Da (w.withFollow "special-get-raises" false):=by
 unfold Da;rw[qv,d8];kernel_rfl
theorem DF(w:d5):Da (w.withFollow "special-get-raises" true):=by
 unfold Da;rw[qv,d8];kernel_rfl
theorem fin:∀w:d5,(λos=>topRun treeTable pr w 11 CL 2 (S1 w os).abs ⟨doneF .next,cd,p1,[topFrame p0]⟩)=λos=>some ⟨H1 w.params,#[],{},539,os⟩:=by
 intro w;rw[Fast.te14082659384304107361,d8];kernel_rfl
theorem run(w:d5)(os:CO):topRun treeTable pr w 11 CL (Dy 12 (Dy 1 (Dy 2000 2))) ⟨lU w.params,#[],boot_drawn,boot_toks,os⟩ (topStub pr)=some ⟨H1 w.params,#[],{},539,os⟩:=
 go_top (congrFun (pre w) os) (piece_block (congrFun (Bl w) os) (by
  have h:=piece_app (rest:=[]) (segRun_of (congrFun (byRow2 "special-get-raises" (P:=Da) DG DF w) os)) (piece_nil (congrFun (fin w) os))
  rw[bD]at h
  exact h))
noncomputable def q:Program:=view pr [0,2,3,4,5,6,8,10,11,12,13,14,15,16]
noncomputable def uW:List Str:=[ah "_NodeInfo",ah "Whitespace"]
noncomputable abbrev Xt:af→Bool:=λs=>xlAt q [] s&&recOk (RowW.records row.toRowW) s
noncomputable abbrev Yf(s:af):Heap×Nat:=(s.heap,s.toks)
noncomputable abbrev Ya(w:d5):Heap×Nat:=(H1 w.params,539)
theorem size:∀w:d5,((lU w.params).isNs mainGlobals&&(#[]:Array GenState).size==0,(lU w.params).objs.size,(lU w.params).nsMap mainGlobals "__annotations__")=(true,11,CL):=by
 intro w;rw[Fast.te8920871248978507458];kernel_rfl
theorem looks1:∀w:d5,(λos=>(staticsOk (importedModules pr.main.body) (lU w.params) (H1 w.params)&&namesBound pr (H1 w.params)&&gensDone ⟨H1 w.params,#[],{},539,os⟩&&laidKept (lU w.params) (H1 w.params)))=λz=>true:=by
 intro w;rw[q7];kernel_rfl
theorem looks2:∀w:d5,(λos=>openSeen q uW (importedModules pr.main.body) Xt true ⟨H1 w.params,#[],{},539,os⟩)=λz=>openGood q uW:=by
 intro w;rw[Fast.te4187177175401517315,q7];kernel_rfl
theorem left:LeftO pr q uW Xt Yf Ya 3640:=
 LeftO.of_pieces (boot_open rfl (by decide) λs=>rfl) size run (by decide) λw=>funext λos=>Bp (congrFun (looks1 w) os) (Bp (congrFun (looks2 w) os) rfl)
theorem kin(P:nB):((K P).map (·.1)).map (H1 P).get?=(K P).map λp=>some p.2:=by kernel_rfl
theorem kx{w:d5}{s₀:af}(h:Yf s₀=Ya w):(K w.params).In s₀.heap:=by
 have:=congrArg Prod.fst h
 rw[show s₀.heap=H1 w.params from this]
 exact Frag.in_of rfl (kin _)
noncomputable def dl:DefRec:={name:= "law",params:=Bm (bV bR 16),body:=dO (bV bR 16),scope:=ml (bV bR 16),pos:=E3 (bV bR 16)}
theorem E7:defOf q row.name=some (dl,[]):=by kernel_rfl
theorem E6:row.prog.theDef row.name=some (dl.params,dl.body,dl.scope):=by kernel_rfl
theorem hkw:kwWritten? dl.params.kwonlyargs dl.params.kw_defaults=some []:=by kernel_rfl
theorem E5:row.toRowW.promised:=by w_witness2
theorem holds(call:WalkX q uW (XL q []) Yf Ya row.toRowW dl [] λf vs=>PySem.call f vs):rw.Holds:=
 holds_law EZ λh=>holds_openX left (λs e=>xl_of s (vG.mp e).1) XL.keeps E7 E6 hkw (λs e=>recFacts_of (vG.mp e).2) rfl h (by decide+kernel) ⟨rfl,rfl,rfl,rfl,rfl,by decide+kernel⟩ E5 call
end Mine.Hd
namespace Mine
variable{w:d5}{H:Heap}{K:Frag}{ex:Nat→Value}{mg mb:Str→Option Value}
noncomputable def pW:Nat→Value|0=>.type "StopIteration" |_=>.ref 55
theorem DK(F:jn w H K mg mb):OkK (P1 w H K) (dy pW) 7 (.ref 248) xJ:=by
 have h_NodeInfo_init:=oH (ex:=pW) F rfl rfl
 have h_TS__get_nodeinfo:=mF (ex:=pW) F rfl rfl h_NodeInfo_init
 have h_TS_add:=y1 (ex:=pW) F rfl rfl h_TS__get_nodeinfo
 have h_TS_init:=wq (ex:=pW) F rfl rfl
 have h_TS__find_cycle:=n6 (ex:=pW) F rfl rfl
 have h_TS_prepare:=rZ (ex:=pW) F rfl rfl h_TS__find_cycle
 have h_TS_get_ready:=pV (ex:=pW) F rfl rfl
 have h_TS_is_active:=pU (ex:=pW) F rfl rfl
 have h_TS_done:=wr (ex:=pW) F rfl rfl
 have h_Whitespace_init:=nh (ex:=pW) F rfl rfl
 have h_Whitespace_longest_run_of_spaces:=gW (ex:=pW) F rfl rfl
 have h_Whitespace_indent_level:=jH (ex:=pW) F rfl rfl
 have h_Whitespace_less:=ng (ex:=pW) F rfl rfl h_Whitespace_indent_level h_Whitespace_longest_run_of_spaces
 have h_Whitespace_not_less_witness:=iS (ex:=pW) F rfl rfl h_Whitespace_indent_level h_Whitespace_longest_run_of_spaces
 have h_law_text:=uG (ex:=pW) F rfl rfl
 have h_law_column:=rX (ex:=pW) F rfl rfl
 have h_law_blocks:=rY (ex:=pW) F rfl rfl
 have h_law_witness:=qr (ex:=pW) F rfl rfl
 have h_law_ring:=uH (ex:=pW) F rfl rfl
 have h_law_stage:=tM (ex:=pW) F rfl rfl h_TS_init h_TS__find_cycle h_TS_add h_TS_done h_TS_get_ready h_TS_is_active h_TS_prepare
 have h_law:=DJ (ex:=pW) F rfl rfl h_Whitespace_init h_Whitespace_less h_Whitespace_not_less_witness h_law_blocks h_law_column h_law_ring h_law_stage h_law_text h_law_witness
 exact h_law
end Mine
namespace Mine
open PySem PySem.W PySem.W.X PySem.Calls PyProof.Rows PySem.W.ZRun
theorem Az{R:WRecords}{cl:Str→Option Addr}{P:nB}{ord:List DictEntry→List DictEntry}:∀(ns:List Int)(s:af)(r:List Value×af),layAllW R cl P ord (ofPys (ns.map jC)) s=some r→qg r.1 ns:=by
 intro xs_
 induction xs_ with
 |nil=>
  intro s r e
  have:layAllW R cl P ord (ofPys (gp jC [])) s=some ([],s):=by simp[ofPys,layAllW]
  rw[this]at e
  cases e;exact .nil
 |cons n ns ih=>
  intro s r e
  simp only[ar,ofPys,ofPy,layAllW,layW]at e
  cases q:layAllW R cl P ord (ofPys (gp jC ns)) {s with toks:=s.toks+1}with
  |none=>rw[q]at e;cases e
  |some r'=>
   rw[q]at e
   cases e
   exact .cons _ _ (ih {s with toks:=s.toks+1} r' q)
theorem rV{R:WRecords}{w:d5}{s₀ s₁:af}{ns:List Int}{a:Addr}{as:List Addr}(L:Laid R w s₀ s₁ [ofPy (PyData.list (ns.map jC))] [.ref a] as):∃vs,s₁.heap.PlainList a vs∧qg vs.toList ns:=by
 obtain⟨ord,_,e⟩:=L.laid
 simp only[ofPy,layAllW,layW]at e
 cases q:layAllW R (classAt s₀.heap) w.params ord (ofPys (gp jC ns)) s₀ with
 |none=>rw[q]at e;cases e
 |some r=>
  rw[q]at e
  have hh:=Az ns s₀ r q
  simp only[eJ,qj,iR,GH]at e
  obtain⟨⟨ea,_⟩,es⟩:=e
  rw[←es,←ea]
  refine⟨r.1.toArray,⟨_,aw _ rfl⟩,by simpa using hh⟩
theorem tF{P:dH}{F:Addr→Prop}{h:Heap}:∀{vs:List Value}{ns:List Int},qg vs ns→VRs P.nm F h (ns.map .int) vs
 |_,_,.nil=>by simp[VRse]
 |_,_,.cons n t r=>by simp only[ar,VRse];exact⟨_,_,rfl,vInt,tF r⟩
theorem E8{P:dH}{ex:Nat→Value}{d:Nat}{f:Value}{Dc:DC}(h:OkK P (dy ex) d f Dc)(hd:d≤100){s₁:af}(hH:P.H₀=s₁.heap)(hg:s₁.gens= #[]){a:Addr}{vs:Array Value}{ns:List Int}(hpl:s₁.heap.PlainList a vs)(hi:qg vs.toList ns)
 (hlaw:Dc [.lst (ns.map .int)] (λv y=>v= .bool true) noXA (λy=>ae)){c:ClaimW}{cl:Str→Option Addr}{mean:ExcName→Option Value}{args:List WData}(hr:∀cls,c.raises args cls=false)(hp:c.post args (.bool true) args=true):
 wpAny P.M callerA (call f [.ref a]) (λv s'=>GoodWG c cl mean args s₁ (.ok (.ret v)) s') (λe s'=>GoodWG c cl mean args s₁ (.error e) s') s₁:=by
 have ok:HeapOk P no1 (λy=>ae) s₁:=⟨λy y e=>by(cases e),λy e=>absurd rfl e,λb o e=>by rw[←hH];exact e,λy e=>absurd rfl e,λy e=>e.elim,λy e=>e.elim,hg⟩
 have rm:fA d callerA:=⟨bM (dF hd 301) (by decide:301+100<1000),bM (bI (dF (cr 8 hd) 4) 128) (by decide:4+8*100+128<9900),λy=>rfl⟩
 have fs:Fs callerA no1 s₁:=⟨[],rfl,λy h=>(nomatch h)⟩
 have r:P.VRs no1 (λy=>ae) s₁.heap [.lst (ns.map .int)] [.ref a]:=by
  simp only[VRse,VRe]
  exact⟨_,_,rfl,⟨a,vs,rfl,⟨rfl,λz=>z⟩,hpl,tF hi⟩,rfl⟩
 refine wpAny_mono (h.c callerA s₁ _ _ _ no1 _ _ rm fs ok r hlaw) (λv s' hq=>?_) (by rintro e s' ⟨hp',_,_,k,hk,_⟩;exact hk.elim)
 obtain⟨hp',e,ok',u,hu,hv⟩:=hq
 subst hu
 simp only[VRe]at hv
 subst hv
 exact⟨.inl ⟨_,_,[],rfl,hr,ReadsW.bool true,hp,λy=>⟨List.nodup_nil,λy hm=>(nomatch hm)⟩⟩,.of_keep λb o g=>ok'.base b o (by rw[hH];exact g),e.os,by rw[ok'.gens];exact AllBare.empty⟩
end Mine
namespace Mine
noncomputable def Bk(sc:Scope):Bool:=(sc.kind== .function)&& !sc.isGenerator&& !sc.isCoroutine&&decide (sc.names.map (·.1)).Nodup&&sc.names.all λp=>p.2 != .free
structure og(P:dH)(a:Addr)(st:Stmt)(o:Obj)(fd:FuncData):Prop where
 ho:P.H₀.get? a=some o
 hd:o.data= .func fd
 code:P.H₀.CodeRec fd.code fd.qualname
 hb:fd.body= .stmts (dO st)
 hs:fd.scope=ml st
 cl:fd.closure=[]
 gl:fd.globals=mainGlobals
 bl:fd.builtins=builtinsNs
 ck:Bk (ml st)=true
theorem og.facts{P:dH}{a:Addr}{st:Stmt}{o:Obj}{fd:FuncData}(r:og P a st o fd):mZ P a fd (dO st):=by
 have ck:=r.ck
 unfold Bk at ck
 simp only[bv,beq_iff_eq,gf,decide_eq_true_eq]at ck
 obtain⟨⟨⟨⟨h1,h2⟩,h3⟩,h4⟩,h5⟩:=ck
 refine⟨⟨o,r.ho,r.hd⟩,r.code,r.hb,r.cl,r.gl,r.bl,by rw[r.hs];exact h1,by rw[r.hs];exact h2,by rw[r.hs];exact h3,by rw[r.hs];exact h4,λn h=>?_⟩
 rw[r.hs]at h
 have:=bY.mp h5 _ h
 simp at this
theorem cE.pos1{P:dH}{a:Addr}{st:Stmt}{o:Obj}{fd:FuncData}{i:Nat}(r:og P a st o fd)(h:∀x,bindArgs fd ⟨[x],[]⟩=pure [(P.nm i,x)]):cE P a st (bdPos [i]):=
 ⟨fd,r.facts,r.hs,BindOk.pos λxs hx=>by obtain⟨x,rfl⟩:=kX.mp hx;exact h x⟩
theorem cE.pos2{P:dH}{a:Addr}{st:Stmt}{o:Obj}{fd:FuncData}{i j:Nat}(r:og P a st o fd)(h:∀x y,bindArgs fd ⟨[x,y],[]⟩=pure [(P.nm i,x),(P.nm j,y)]):cE P a st (bdPos [i,j]):=
 ⟨fd,r.facts,r.hs,BindOk.pos λxs hx=>by cases xs with|nil=>cases hx|cons x t=>obtain⟨y,rfl⟩:=kX.mp (mG hx);exact h x y⟩
theorem cE.pos3{P:dH}{a:Addr}{st:Stmt}{o:Obj}{fd:FuncData}{i j k:Nat}(r:og P a st o fd)(h:∀x y z,bindArgs fd ⟨[x,y,z],[]⟩=pure [(P.nm i,x),(P.nm j,y),(P.nm k,z)]):cE P a st (bdPos [i,j,k]):=
 ⟨fd,r.facts,r.hs,BindOk.pos λxs hx=>by
  cases xs with
  |nil=>cases hx
  |cons x t=>
   cases t with
   |nil=>cases hx
   |cons y t=>obtain⟨z,rfl⟩:=kX.mp (mG (mG hx));exact h x y z⟩
theorem cE.star1{P:dH}{a:Addr}{st:Stmt}{o:Obj}{fd:FuncData}{i j:Nat}(r:og P a st o fd)(h:∀x rest,bindArgs fd ⟨x::rest,[]⟩=newTuple rest>>= λt=>pure [(P.nm i,x),(P.nm j,t)]):cE P a st (bdStar1 i j):=
 ⟨fd,r.facts,r.hs,BindOk.star1 h⟩
theorem cE.star2{P:dH}{a:Addr}{st:Stmt}{o:Obj}{fd:FuncData}{i j k:Nat}(r:og P a st o fd)(h:∀x y rest,bindArgs fd ⟨x::y::rest,[]⟩=newTuple rest>>= λt=>pure [(P.nm i,x),(P.nm j,y),(P.nm k,t)]):cE P a st (lI i j k):=
 ⟨fd,r.facts,r.hs,BindOk.star2 h⟩
theorem cE.def1{P:dH}{a:Addr}{st:Stmt}{o:Obj}{fd:FuncData}{i j:Nat}{mg mb:Str→Option Value}(tp:eL P mg mb)(r:og P a st o fd)(h:∀s x,P.K.In s.heap→BindsTo s fd ⟨[x],[]⟩ [(P.nm i,x),(P.nm j,.none)]):cE P a st (nJ i j):=
 ⟨fd,r.facts,r.hs,BindOk.def1 tp h⟩
noncomputable def EY:Option CFound→Tok
 |some (.val (.str _ t))=>t
 |_=>0
theorem x0{x:Option CFound}{l:List Nat}(h:x=some (.val (.str ⟨l.toArray⟩ (EY x)))):∃tk,x=some (.val (.str ⟨l.toArray⟩ tk)):=⟨_,h⟩
noncomputable def EX:Option (Option Value)→Tok
 |some (some (.int _ t))=>t
 |_=>0
theorem x5{K:Frag}{h:Heap}{mg:Str→Option Value}{n:Str}{i:Int}(X:K.In h)(G:h.Ns mainGlobals mg)(e:nsIn K mainGlobals n=some (some (.int i (EX (nsIn K mainGlobals n))))):∃t,mg n=some (.int i t):=⟨_,oL X G e⟩
theorem vQ{α:Type}{x:Option α}{a:α}{p:α→Prop}(h:x=some a):(∃v,x=some v∧p v)=p a:=propext ⟨λq=>by obtain⟨v,e,q⟩:=q;cases h.symm.trans e;exact q,λq=>⟨a,h,q⟩⟩
theorem vH{α:Type}{a:α}{p:α→Prop}:(∃v,some a=some v∧p v)=p a:=vQ rfl
theorem BP{α β:Type}{a:α}{p:α→β→Prop}:(∃v b,some a=some v∧p v b)=∃b,p a b:=propext ⟨λq=>by obtain⟨v,b,e,q⟩:=q;cases e;exact⟨b,q⟩,λq=>by obtain⟨b,q⟩:=q;exact⟨a,b,rfl,q⟩⟩
theorem E9{α β γ δ:Type}{a:α}{p:α→β→γ→δ→Prop}:(∃v b c d,some a=some v∧p v b c d)=∃b c d,p a b c d:=propext ⟨λq=>by obtain⟨v,b,c,d,e,q⟩:=q;cases e;exact⟨b,c,d,q⟩,λq=>by obtain⟨b,c,d,q⟩:=q;exact⟨a,b,c,d,rfl,q⟩⟩
theorem EO{a:Int}{p:Int→Prop}:(∃v,V.int a= .int v∧p v)=p a:=propext ⟨λq=>by obtain⟨v,e,q⟩:=q;cases e;exact q,λq=>⟨a,rfl,q⟩⟩
theorem Dp{a b:Int}{p:Int→Int→Prop}:(∃c d,[V.int a,V.int b]=[.int c,.int d]∧p c d)=p a b:=propext ⟨λq=>by obtain⟨v,w,e,q⟩:=q;cases e;exact q,λq=>⟨a,b,rfl,q⟩⟩
theorem xo{β:Type}{a:V}{p:V→β→Prop}:(∃v b,[a]=[v]∧p v b)=∃b,p a b:=propext ⟨λq=>by obtain⟨v,b,e,q⟩:=q;cases e;exact⟨b,q⟩,λq=>by obtain⟨b,q⟩:=q;exact⟨a,b,rfl,q⟩⟩
theorem Dn{β γ:Type}{a:V}{p:V→β→γ→Prop}:(∃v b c,[a]=[v]∧p v b c)=∃b c,p a b c:=propext ⟨λq=>by obtain⟨v,b,c,e,q⟩:=q;cases e;exact⟨b,c,q⟩,λq=>by obtain⟨b,c,q⟩:=q;exact⟨a,b,c,rfl,q⟩⟩
theorem E4(a b:Int):(if b>a then b else a)=max a b:=by
 by_cases h:a<b
 ·rw[if_pos h,gN (oE h)]
 ·rw[if_neg h,BB (Fn.mp h)]
section
variable{Q:Fw→bk→Hp→Prop}{X:XS}{loc:bk}{hp:Hp}{QE:V→Hp→Prop}{XE:XA}{QA:List V→Hp→Prop}{QT:Bool→Hp→Prop}{QG:bk→Hp→Prop}
@[simp ↓] theorem ue{a b:DS}:aA a b Q X loc hp=a (λw loc1 hp1=>match w with| .next=>b Q X loc1 hp1|w=>Q w loc1 hp1) X loc hp:=rfl
@[simp ↓] theorem eY{e:DE}{t:DA}:bB e t Q X loc hp=e (λv hp1=>t v (λloc' hp2=>Q .next loc' hp2) X loc hp1) (λk hp'=>X k loc hp') loc hp:=rfl
@[simp ↓] theorem Er{e:DE}{t u:DA}:xz e t u Q X loc hp=e (λv hp1=>t v (λloc2 hp2=>u v (λloc3 hp3=>Q .next loc3 hp3) X loc2 hp2) X loc hp1) (λk hp'=>X k loc hp') loc hp:=rfl
@[simp ↓] theorem Ep{e:DE}{t u w:DA}:xx e t u w Q X loc hp=e (λv hp1=>t v (λloc2 hp2=>u v (λloc3 hp3=>w v (λloc4 hp4=>Q .next loc4 hp4) X loc3 hp3) X loc2 hp2) X loc hp1) (λk hp'=>X k loc hp') loc hp:=rfl
@[simp ↓] theorem rq{e:DE}:gH e Q X loc hp=e (λv hp1=>Q (.ret v) loc hp1) (λk hp'=>X k loc hp') loc hp:=rfl
@[simp ↓] theorem uf{e:DE}:jk e Q X loc hp=e (λv hp1=>Q .next loc hp1) (λk hp'=>X k loc hp') loc hp:=rfl
@[simp ↓] theorem Eo:aH Q X loc hp=Q .next loc hp:=rfl
@[simp ↓] theorem FH:sK Q X loc hp=Q .brk loc hp:=rfl
@[simp ↓] theorem AM:xw Q X loc hp=Q .cont loc hp:=rfl
@[simp ↓] theorem pg{t:DT}{a b:DS}:kg t a b Q X loc hp=t (λc hp1=>if c then a Q X loc hp1 else b Q X loc hp1) (λk hp'=>X k loc hp') loc hp:=rfl
@[simp ↓] theorem Cs{i:Nat}{e:DE}{a b:DS}:zP i e a b Q X loc hp=e (λv hp1=>∃c,ix v .none=some c∧if c then a Q X (upd loc i v) hp1 else b Q X (upd loc i v) hp1) (λk hp'=>X k loc hp') loc hp:=rfl
@[simp ↓] theorem En{i j:Nat}{e:DE}:xv i j e Q X loc hp=e (λv hp1=>∃u w,v= .tup [u,w]∧Q .next (upd (upd loc j w) i u) hp1) (λk hp'=>X k loc hp') loc hp:=rfl
@[simp ↓] theorem FI{g:V→(V→Hp→Prop)→Hp→Prop}{f:V→V→(Hp→Prop)→Hp→Prop}{b:B2}{o e:DE}:vL g f b o e Q X loc hp=o (λov hp1=>g ov (λold hp2=>e (λu hp3=>b old u (λw hp4=>f ov w (λhp5=>Q .next loc hp5) hp4) hp3) (λk hp'=>X k loc hp') loc hp2) hp1) (λk hp'=>X k loc hp') loc hp:=rfl
@[simp ↓] theorem rA{e:DE}{t:DA}{b:DS}:i8 e t b Q X loc hp=e (λv hp1=>∃vs,eh hp1 v=some vs∧eK v hp1 t b Q vs loc hp1) (λk hp'=>X k loc hp') loc hp:=rfl
@[simp ↓] theorem FE{k0:Nat}{b h:DS}:zO k0 b h Q X loc hp=b Q (λk loc' hp'=>k=k0∧h Q o8 loc' hp') loc hp:=rfl
@[simp ↓] theorem D9{k:Nat}{a:lV}:t5 k a Q X loc hp=a (λvs hp1=>vs.length≤lim∧X k loc hp1) (λk hp'=>X k loc hp') loc hp:=rfl
@[simp ↓] theorem FG{o i:DE}:BK o i Q X loc hp=o (λov hp1=>i (λiv hp2=>xH ov iv (λhp3=>Q .next loc hp3) hp2) (λk hp'=>X k loc hp') loc hp1) (λk hp'=>X k loc hp') loc hp:=rfl
@[simp ↓] theorem iB{i:Nat}{v:V}:aG i v QG X loc hp=QG (upd loc i v) hp:=rfl
@[simp ↓] theorem x9{f:V→V→(Hp→Prop)→Hp→Prop}{o:DE}{v:V}:jE f o v QG X loc hp=o (λov hp1=>f ov v (λhp2=>QG loc hp2) hp1) (λk hp'=>X k loc hp') loc hp:=rfl
@[simp ↓] theorem vm{o i:DE}{v:V}:pf o i v QG X loc hp=o (λov hp1=>i (λiv hp2=>u5 ov iv v (λhp3=>QG loc hp3) hp2) (λk hp'=>X k loc hp') loc hp1) (λk hp'=>X k loc hp') loc hp:=rfl
@[simp ↓] theorem FL{ts:List DA}{v:V}:lS ts v QG X loc hp=∃us,v= .tup us∧lT ts us QG X loc hp:=rfl
@[simp ↓] theorem be{i:Nat}:ai i QE XE loc hp=∃v,loc i=some v∧QE v hp:=rfl
@[simp ↓] theorem ek{v:V}:aQ v QE XE loc hp=QE v hp:=rfl
@[simp ↓] theorem d1{b:B2}{l r:DE}:aZ b l r QE XE loc hp=l (λx hp1=>r (λy hp2=>b x y QE hp2) XE loc hp1) XE loc hp:=rfl
@[simp ↓] theorem lH{f:V→(V→Hp→Prop)→Hp→Prop}{o:DE}:cX f o QE XE loc hp=o (λv hp1=>f v QE hp1) XE loc hp:=rfl
@[simp ↓] theorem ya{a:lV}:mh a QE XE loc hp=a (λvs hp1=>vs.length≤lim∧QE (.tup vs) hp1) XE loc hp:=rfl
@[simp ↓] theorem rB{a:lV}:jS a QE XE loc hp=a (λvs hp1=>vs.length≤lim∧QE (.lst vs) hp1) XE loc hp:=rfl
@[simp ↓] theorem yb{a:lV}:mi a QE XE loc hp=a (λvs hp1=>vs.length≤lim∧∀l,hp1 l=ae→QE (.ref l) (upd hp1 l (.lst vs))) XE loc hp:=rfl
@[simp ↓] theorem AQ:uZ QE XE loc hp=∀l,hp l=ae→∀ep,QE (.ref l) (upd hp l (.dict [] ep)):=rfl
@[simp ↓] theorem dS{Dc:DC}{a:lV}:aT Dc a QE XE loc hp=a (λvs hp1=>Dc vs QE XE hp1) XE loc hp:=rfl
@[simp ↓] theorem iH{isR:Hp→V→Prop}{Dc:DC}{o:DE}{a:lV}:bX isR Dc o a QE XE loc hp=o (λr hp1=>isR hp1 r∧a (λvs hp2=>Dc (r::vs) QE XE hp2) XE loc hp1) XE loc hp:=rfl
@[simp ↓] theorem dz:aF QA XE loc hp=QA [] hp:=rfl
@[simp ↓] theorem cD{e:DE}{r:lV}:av e r QA XE loc hp=e (λv hp1=>r (λvs hp2=>QA (v::vs) hp2) XE loc hp1) XE loc hp:=rfl
@[simp ↓] theorem AS{e:DE}{r:lV}:sR e r QA XE loc hp=e (λv hp1=>∃us,ko hp1 v=some us∧us.length≤lim∧r (λvs hp2=>QA (us++vs) hp2) XE loc hp1) XE loc hp:=rfl
@[simp ↓] theorem Cw{a:DE}:zS a QE XE loc hp=a (λv hp1=>∃i,v= .int i∧QE (.int (-i)) hp1) XE loc hp:=rfl
@[simp ↓] theorem Cx{t:DT}{a b:DE}:BW t a b QE XE loc hp=t (λc hp1=>if c then a QE XE loc hp1 else b QE XE loc hp1) XE loc hp:=rfl
@[simp ↓] theorem FN{a b:DE}:BV a b QE XE loc hp=a (λv hp1=>∃c,gj hp1 v=some c∧(∀vs,cg hp1 v=some vs→vs.length≤lim)∧if c then QE v hp1 else b QE XE loc hp1) XE loc hp:=rfl
@[simp ↓] theorem FO{i:Nat}:xq i QE XE loc hp=∃a us,loc i=some (.ref a)∧hp a=some (.lst us)∧QE (.lst us) (del hp a):=rfl
@[simp ↓] theorem Cy{o l u st:DE}:kP o l u st QE XE loc hp=o (λov hp1=>l (λlv hp2=>u (λuv hp3=>st (λkv hp4=>zU ov lv uv kv QE hp4) XE loc hp3) XE loc hp2) XE loc hp1) XE loc hp:=rfl
@[simp ↓] theorem Eu{e:DE}:xE e QE XE loc hp=e (λv hp1=>∃I l k us,v= .nxt I∧hp1 I=some (.it l k)∧hp1 l=some (.lst us)∧match us[k]? with
  |some u=>QE u (upd hp1 I (.it l (k+1)))
  |ae=>XE 0 (del hp1 I)) XE loc hp:=rfl
@[simp ↓] theorem oQ{fr:List Nat}{src:DE}{t:DA}{f:DT}{inner:CD}:cI fr src t f inner QE XE loc hp=src (λv hp1=>∃vs,eh hp1 v=some vs∧lQ v hp1 t f inner (λacc hp'=>QE (.lst acc) hp') vs [] (keepL fr loc) hp1) XE loc hp:=rfl
@[simp ↓] theorem Eb{fr:List Nat}{src:DE}{t:DA}{f:DT}{inner:CD}:uj fr src t f inner QE XE loc hp=src (λv hp1=>∃vs,eh hp1 v=some vs∧lQ v hp1 t f inner (λacc hp'=>∀l,hp' l=ae→QE (.ref l) (upd hp' l (.lst acc))) vs [] (keepL fr loc) hp1) XE loc hp:=rfl
@[simp ↓] theorem x8{t:DE}:me t QT XE loc hp=t (λv hp1=>∃b,gj hp1 v=some b∧(∀vs,cg hp1 v=some vs→vs.length≤lim)∧QT b hp1) XE loc hp:=rfl
@[simp ↓] theorem jU{b:B2}{l r:DE}:cG b l r QT XE loc hp=l (λx hp1=>r (λy hp2=>b x y (λv hp3=>∃c,v= .bool c∧QT c hp3) hp2) XE loc hp1) XE loc hp:=rfl
@[simp ↓] theorem ud{a b:DT}:i7 a b QT XE loc hp=a (λc hp1=>if c then b QT XE loc hp1 else QT false hp1) XE loc hp:=rfl
@[simp ↓] theorem Gk{a b:DT}:xf a b QT XE loc hp=a (λc hp1=>if c then QT true hp1 else b QT XE loc hp1) XE loc hp:=rfl
@[simp ↓] theorem rQ:fNone QT XE loc hp=QT true hp:=rfl
@[simp ↓] theorem Gm{x y:V}:A7 x y QE hp=∃b,ix x y=some b∧QE (.bool b) hp:=rfl
@[simp ↓] theorem Ed{x y:V}:jq x y QE hp=∃b,ix x y=some b∧QE (.bool (!b)) hp:=rfl
@[simp ↓] theorem pv{f:Int→Int→Int}{a b:Int}:mj f (.int a) (.int b) QE hp=QE (.int (f a b)) hp:=rfl
@[simp ↓] theorem pw{f:Int→Int→Bool}{a b:Int}:iZ f (.int a) (.int b) QE hp=QE (.bool (f a b)) hp:=rfl
@[simp ↓] theorem nF{a b:Int}:ef (.int a) (.int b) QE hp=QE (.int (a+b)) hp:=rfl
@[simp ↓] theorem rR{a b:List Nat}:ef (.str a) (.str b) QE hp=(a.length+b.length≤lim∧QE (.str (a++b)) hp):=rfl
@[simp ↓] theorem oU{a b:List V}:ef (.lst a) (.lst b) QE hp=(a.length+b.length≤lim∧QE (.lst (a++b)) hp):=by
  exact BP.trans vH
@[simp ↓] theorem pt{a b:Int}:oz (.int a) (.int b) QE hp=(b≠0∧QE (.int (a.fmod b)) hp):=rfl
@[simp ↓] theorem yc{a b:Int}:xr (.int a) (.int b) QE hp=((b≠0∧(a.natAbs<1073741824∨b.natAbs<1073741824))∧QE (.int (a.fdiv b)) hp):=rfl
@[simp ↓] theorem Ew{a b:Int}:kG (.int a) (.int b) QE hp=((small a∨small b)∧QE (.int (a*b)) hp):=rfl
@[simp ↓] theorem vn{a:List Nat}{n:Int}:kG (.str a) (.int n) QE hp=(-(10 ^ 9)<n∧n<10 ^ 9∧a.length*n.toNat≤lim∧QE (.str (aB n.toNat a).flatten) hp):=rfl
@[simp ↓] theorem AR{a:List V}{n:Int}:kG (.lst a) (.int n) QE hp=(-(10 ^ 9)<n∧n<10 ^ 9∧a.length*n.toNat≤lim∧QE (.lst (aB n.toNat a).flatten) hp):=by
  exact EO.trans vH
@[simp ↓] theorem j4{a:List V}{k:Int}:bw (.lst a) (.int k) QE hp=(a.length≤lim∧∃v,eN a k=some v∧QE v hp):=by
  exact EO
@[simp ↓] theorem Ec{a:List V}{k:Int}:bw (.tup a) (.int k) QE hp=(a.length≤lim∧∃v,eN a k=some v∧QE v hp):=by
  exact EO
@[simp ↓] theorem oS{a:List V}{l u st:V}:zU (.lst a) l u st QE hp=∃lo hi k,a.length≤lim∧jT l=some lo∧jT u=some hi∧jT st=some k∧k≠some 0∧QE (.lst (oy a lo hi k)) hp:=by
  exact E9
@[simp ↓] theorem AN{a b:Int}:qB [.int a,.int b] QE XE hp=QE (.int (max a b)) hp:=by
  exact Dp.trans (congrArg (λc=>QE (.int c) hp) (E4 a b))
@[simp ↓] theorem AP{a:List V}:d9 [.lst a] QE XE hp=(a.length≤lim∧QE (.int a.length) hp):=xo.trans vH
@[simp ↓] theorem Ev{a:List V}:d9 [.tup a] QE XE hp=(a.length≤lim∧QE (.int a.length) hp):=xo.trans vH
@[simp ↓] theorem AO{a:List Nat}:d9 [.str a] QE XE hp=(a.length≤lim∧QE (.int a.length) hp):=xo.trans vH
@[simp ↓] theorem nV{a:Int}:cJ [.int a] QE XE hp=QE (.rng 0 a) hp:=by simp[cJ]
@[simp ↓] theorem lL{a b:Int}:iI [.int a,.int b] QE XE hp=QE (.rng a b) hp:=by
  exact Dp
end
theorem eqvI(x k:Int):cy (.int x) (.int k)=decide (x=k):=rfl
theorem ku:∀ns:List Int,lh (ns.map .int)=some ns:=by
 intro xs_
 induction xs_ with
 |nil=>
  exact rfl
 |cons n ns ih=>
  exact congrArg (Option.map (n::·)) (ih)
theorem pJ:∀ns:List Int,jo (ns.map .int)=some (ns.map .int):=by
 intro xs_
 induction xs_ with
 |nil=>
  exact rfl
 |cons n ns ih=>
  show(some (jC n)).bind (λd=>(jo (ns.map .int)).map (d::·))=_
  rw[ih];rfl
theorem fW{hp:Hp}(ns:List Int):toD hp (.lst (ns.map .int))=some (.list (ns.map .int)):=by
 show(jo _).map _=_
 rw[pJ];rfl
theorem Af{hp:Hp}{a:Addr}{ns:List Int}(h:hp a=some (.lst (ns.map .int))):toD hp (.ref a)=some (.list (ns.map .int)):=by
 show((pe hp a).bind jo).map _=_
 rw[tf h,d7,pJ];rfl
theorem qL:∀ns:List Int,fS (ns.map .int)=true∧gU (ns.map .int)=0:=by
 intro xs_
 induction xs_ with
 |nil=>
  exact⟨rfl,rfl⟩
 |cons n ns ih=>
  have:=ih;simp[fS,fp,gU,gu,this]
theorem fZ(ns:List Int):bO (.list (ns.map .int))=true:=by
 simp[bO,fp,gu,qL ns]
theorem iD(n:Int):bO (.int n)=true:=by simp[bO,fp,gu]
theorem eqv_ints:∀xs ys:List Int,AX (xs.map .int) (ys.map .int)=decide (xs=ys)
 | [],[]=>rfl
 | [],y::ys=>rfl
 |x::xs,[]=>rfl
 |x::xs,y::ys=>by
  simp only[ar,AX,cy,eqv_ints xs ys,iR,Bool.decide_and]
  rfl
section
variable{Q:V→Hp→Prop}{hp:Hp}{XE:XA}
theorem eq_int{a b:Int}(h:Q (.bool (decide (a=b))) hp):pX (.int a) (.int b) Q hp:=⟨_,_,rfl,rfl,iD _,iD _,h⟩
theorem ne_int{a b:Int}(h:Q (.bool (decide (a≠b))) hp):q9 (.int a) (.int b) Q hp:=by
 refine⟨_,_,rfl,rfl,iD _,iD _,?_⟩
 have:(!cy (.int a) (.int b))=decide (a≠b):=by rw[eqvI];by_cases h:a=b<;>simp[h]
 rw[this];exact h
theorem eq_ints{a b:List Int}(h:Q (.bool (decide (a=b))) hp):pX (.lst (a.map .int)) (.lst (b.map .int)) Q hp:=by
 refine⟨.list (a.map .int),.list (b.map .int),?_,?_,fZ _,fZ _,?_⟩
 ·exact fW _
 ·exact fW _
 ·simpa[cy,eqv_ints]using h
theorem ne_ints{a b:List Int}(h:Q (.bool (decide (a≠b))) hp):q9 (.lst (a.map .int)) (.lst (b.map .int)) Q hp:=by
 refine⟨.list (a.map .int),.list (b.map .int),?_,?_,fZ _,fZ _,?_⟩
 ·exact fW _
 ·exact fW _
 ·simpa[cy,eqv_ints]using h
theorem anyI(k:Int):∀xs:List Int,(xs.map jC).any (λy=>cy y (.int k))=decide (k∈xs):=by
 intro xs_
 induction xs_ with
 |nil=>
  simp
 |cons x xs ih=>
  rw[ar,kh,ih,eqvI]
  by_cases h:x=k
  ·simp[h]
  ·have:¬k=x:=λz=>h z.symm
   simp[h,this]
theorem F1{k:Int}{xs:List Int}:qA hp (.int k) (.lst (xs.map .int)) (decide (k∈xs)):=by
 refine⟨xs.map .int,.int k,?_,rfl,fZ _,iD _,(anyI k xs).symm⟩
 exact fW _
theorem Gz{a:Addr}{k:Int}{xs:List Int}(h:hp a=some (.lst (xs.map .int))):qA hp (.int k) (.ref a) (decide (k∈xs)):=by
 refine(inRes_o h).mpr ⟨xs.map .int,.int k,?_,rfl,fZ _,iD _,(anyI k xs).symm⟩
 exact Af h
theorem in_ints{k:Int}{xs:List Int}(h:Q (.bool (decide (k∈xs))) hp):p9 (.int k) (.lst (xs.map .int)) Q hp:=⟨_,F1,h⟩
theorem notIn_ints{k:Int}{xs:List Int}(h:Q (.bool (decide (k∉xs))) hp):i2 (.int k) (.lst (xs.map .int)) Q hp:=⟨_,F1,by simpa using h⟩
theorem we{a:Addr}{k:Int}{xs:List Int}(e:hp a=some (.lst (xs.map .int)))(h:Q (.bool (decide (k∉xs))) hp):i2 (.int k) (.ref a) Q hp:=⟨_,Gz e,by simpa using h⟩
end
section
variable{Q:V→Hp→Prop}{hp:Hp}{XE:XA}{QT:Bool→Hp→Prop}
@[simp ↓] theorem DN{a b:Int}:pX (.int a) (.int b) Q hp=Q (.bool (decide (a=b))) hp:=by
  apply propext;constructor
  ·rintro⟨x,y,h1,h2,_,_,h⟩
   cases h1;cases h2;rw[←eqvI];exact h
  ·exact eq_int
@[simp ↓] theorem Gl{a b:Int}:q9 (.int a) (.int b) Q hp=Q (.bool (decide (a≠b))) hp:=by
  have e:(!cy (.int a) (.int b))=decide (a≠b):=by rw[eqvI];by_cases h:a=b<;>simp[h]
  apply propext;constructor
  ·rintro⟨x,y,h1,h2,_,_,h⟩
   cases h1;cases h2;rw[←e];exact h
  ·exact ne_int
@[simp ↓] theorem FM{a b:List Int}:pX (.lst (a.map .int)) (.lst (b.map .int)) Q hp=Q (.bool (decide (a=b))) hp:=by
  apply propext;constructor
  ·rintro⟨x,y,h1,h2,_,_,h⟩
   rw[fW]at h1 h2;cases h1;cases h2;simpa[cy,eqv_ints]using h
  ·exact eq_ints
@[simp ↓] theorem Ct{a b:List Int}:q9 (.lst (a.map .int)) (.lst (b.map .int)) Q hp=Q (.bool (decide (a≠b))) hp:=by
  apply propext;constructor
  ·rintro⟨x,y,h1,h2,_,_,h⟩
   rw[fW]at h1 h2;cases h1;cases h2;simpa[cy,eqv_ints]using h
  ·exact ne_ints
@[simp ↓] theorem FJ{a:List Int}:q9 (.lst (a.map .int)) (.lst []) Q hp=Q (.bool (decide (a≠ []))) hp:=Ct (b:=[])
@[simp ↓] theorem Bc{k:Int}{xs:List Int}:p9 (.int k) (.lst (xs.map .int)) Q hp=Q (.bool (decide (k∈xs))) hp:=by
  apply propext;constructor
  ·rintro⟨r,⟨ds,d,h1,h2,_,_,h⟩,q⟩
   rw[fW]at h1;cases h1;cases h2;rw[anyI]at h;subst h;exact q
  ·exact in_ints
@[simp ↓] theorem zf{k:Int}{xs:List Int}:i2 (.int k) (.lst (xs.map .int)) Q hp=Q (.bool (decide (k∉xs))) hp:=by
  apply propext;constructor
  ·rintro⟨r,⟨ds,d,h1,h2,_,_,h⟩,q⟩
   rw[fW]at h1;cases h1;cases h2;rw[anyI]at h;subst h;simpa using q
  ·exact notIn_ints
@[simp ↓] theorem FK{k:Int}:p9 (.int k) (.lst []) Q hp=Q (.bool false) hp:=by
  exact Bc (Q:=Q) (hp:=hp) (k:=k) (xs:=[])
@[simp ↓] theorem C6{k:Int}:i2 (.int k) (.lst []) Q hp=Q (.bool true) hp:=by
  exact zf (Q:=Q) (hp:=hp) (k:=k) (xs:=[])
@[simp ↓] theorem Cv{ns:List Int}:BS [.lst (ns.map .int)] Q XE hp=Q (.int ns.sum) hp:=Dn.trans (BP.trans (vQ (ku ns)))
@[simp ↓] theorem tB{ns:List Int}:lr [.lst (ns.map .int)] Q XE hp=(ns.length<64∧Q (.lst ((sortZ ns).map .int)) hp):=(Dn.trans (BP.trans (vQ (ku ns)))).trans (by rw[aj])
@[simp] theorem CJ{b:Bool}:gj hp (.bool b)=some b:=rfl
@[simp] theorem CI:gj hp .none=some false:=rfl
@[simp] theorem C1{vs:List V}:gj hp (.lst vs)=some (!vs.isEmpty):=rfl
@[simp] theorem C3{b:Bool}:cg hp (.bool b)=ae:=rfl
@[simp] theorem D6{b:Int}:cg hp (.int b)=ae:=rfl
@[simp] theorem C2:cg hp .none=ae:=rfl
@[simp] theorem D5{vs:List V}:cg hp (.lst vs)=some vs:=rfl
@[simp] theorem C5{vs:List V}:ko hp (.lst vs)=some vs:=rfl
@[simp] theorem C4{vs:List V}:ko hp (.tup vs)=some vs:=rfl
@[simp] theorem D8{vs:List V}:eh hp (.lst vs)=some vs:=rfl
@[simp] theorem D7{vs:List V}:eh hp (.tup vs)=some vs:=rfl
@[simp] theorem Fu:ix .none .none=some true:=rfl
@[simp] theorem Fy{a b:Bool}:ix (.bool a) (.bool b)=some (a==b):=rfl
@[simp] theorem Ft{a:Addr}:ix (.ref a) .none=some false:=rfl
@[simp] theorem Fv{a:List V}:ix (.lst a) .none=some false:=rfl
@[simp] theorem Fx{a:Int}:ix (.int a) .none=some false:=rfl
@[simp] theorem D4{a:List V}{hp hp':Hp}:same (.lst a) hp hp'=True:=rfl
@[simp] theorem D1{a:List V}{hp hp':Hp}:same (.tup a) hp hp'=True:=rfl
@[simp] theorem D3{a b:Int}{hp hp':Hp}:same (.rng a b) hp hp'=True:=rfl
@[simp] theorem D2{a:List Nat}{hp hp':Hp}:same (.str a) hp hp'=True:=rfl
theorem gM{a:Addr}{us:List V}{v:V}(h:hp a=some (.lst us))(hl:us.length≤lim)(q:Q .none (upd hp a (.lst (us++[v])))):ff [.ref a,v] Q XE hp:=⟨_,_,_,rfl,h,hl,q⟩
theorem isLst_ref{a:Addr}{us:List V}(h:hp a=some (.lst us)):gJ hp (.ref a):=⟨us,listOf_ref h⟩
@[simp ↓ high] theorem jb{b:Bool}{K:Bool→Prop}:(∃c,V.bool b=V.bool c∧K c)=K b:=by
  apply propext;constructor
  ·rintro⟨c,h,k⟩;cases h;exact k
  ·intro k;exact⟨b,rfl,k⟩
@[simp ↓ high] theorem ex_int'{b:Int}{K:Int→Prop}:(∃c,V.int b=V.int c∧K c)=K b:=by
  apply propext;constructor
  ·rintro⟨c,h,k⟩;cases h;exact k
  ·intro k;exact⟨b,rfl,k⟩
@[simp ↓ high] theorem ex_tup{b:List V}{K:List V→Prop}:(∃c,V.tup b=V.tup c∧K c)=K b:=by
  apply propext;constructor
  ·rintro⟨c,h,k⟩;cases h;exact k
  ·intro k;exact⟨b,rfl,k⟩
theorem rd{o:Option V}{x:V}{K:V→Prop}(h:o=some x):(∃v,o=some v∧K v)=K x:=by
 apply propext;constructor
 ·rintro⟨c,e,k⟩;rw[h]at e;cases e;exact k
 ·intro k;exact⟨x,h,k⟩
@[simp ↓ high] theorem rd_upd{loc:bk}{j i:Nat}{x:V}{K:V→Prop}:(∃v,upd loc j x i=some v∧K v)=if i=j then K x else∃v,loc i=some v∧K v:=by
  split
  ·rename_i h;subst h;exact rd (upd_same ..)
  ·rename_i h;rw[upd_ne h]
theorem locOf_cons(ps:List (Nat×V))(j i:Nat)(x:V):locOf ((j,x)::ps) i=if i=j then some x else locOf ps i:=by
 by_cases h:i=j
 ·simp[locOf,h]
 ·simp[locOf,eG,show(i==j)=false by simpa using h,h]
@[simp ↓ high] theorem rd_loc{ps:List (Nat×V)}{j i:Nat}{x:V}{K:V→Prop}:(∃v,locOf ((j,x)::ps) i=some v∧K v)=if i=j then K x else∃v,locOf ps i=some v∧K v:=by
  split
  ·rename_i h;subst h;exact rd (by simp[locOf])
  ·rename_i h
   have:locOf ((j,x)::ps) i=locOf ps i:=by simp[locOf,eG,show(i==j)=false by simpa using h]
   rw[this]
@[simp ↓ high] theorem FC{vs:List V}{K:List V→Prop}:(∃us,eh hp (.lst vs)=some us∧K us)=K vs:=vH
@[simp ↓ high] theorem FA{vs:List V}{K:List V→Prop}:(∃us,eh hp (.tup vs)=some us∧K us)=K vs:=vH
theorem DL{v:V}{vs:List V}{K:List V→Prop}(h:eh hp v=some vs):(∃us,eh hp v=some us∧K us)=K vs:=vQ h
@[simp ↓ high] theorem FD{vs:List V}{K:List V→Prop}:(∃us,ko hp (.lst vs)=some us∧K us)=K vs:=vH
@[simp ↓ high] theorem rF{c:Bool}{K:Bool→Prop}:(∃b,gj hp (.bool c)=some b∧(∀vs,cg hp (.bool c)=some vs→vs.length≤lim)∧K b)=K c:=by simp
@[simp ↓ high] theorem Em{K:Bool→Prop}:(∃b,gj hp .none=some b∧(∀vs,cg hp .none=some vs→vs.length≤lim)∧K b)=K false:=by simp
@[simp ↓ high] theorem Fq{us:List V}{K:Bool→Prop}:(∃b,gj hp (.lst us)=some b∧(∀vs,cg hp (.lst us)=some vs→vs.length≤lim)∧K b)=(us.length≤lim∧K (!us.isEmpty)):=by
  apply propext;constructor
  ·rintro⟨b,h1,h2,h3⟩;cases h1;exact⟨h2 _ rfl,h3⟩
  ·rintro⟨h1,h2⟩;exact⟨_,rfl,λvs e=>by cases e;exact h1,h2⟩
theorem tr_ref{a:Addr}{us:List V}{K:Bool→Prop}(h:hp a=some (.lst us)):(∃b,gj hp (.ref a)=some b∧(∀vs,cg hp (.ref a)=some vs→vs.length≤lim)∧K b)=(us.length≤lim∧K (!us.isEmpty)):=by
 have e1:gj hp (.ref a)=some (!us.isEmpty):=congrArg (λo=>match o with|some (O.lst vs)=>some (!vs.isEmpty)|_=>ae) h
 have e2:cg hp (.ref a)=some us:=listOf_ref h
 apply propext;constructor
 ·rintro⟨b,h1,h2,h3⟩;rw[e1]at h1;cases h1;exact⟨h2 _ e2,h3⟩
 ·rintro⟨h1,h2⟩;exact⟨_,e1,λvs e=>by rw[e2]at e;cases e;exact h1,h2⟩
@[simp ↓ high] theorem on_nn{K:Bool→Prop}:(∃b,ix .none .none=some b∧K b)=K true:=vH
@[simp ↓ high] theorem DH{a:Addr}{K:Bool→Prop}:(∃b,ix (.ref a) .none=some b∧K b)=K false:=vH
@[simp ↓ high] theorem Gh{a:List V}{K:Bool→Prop}:(∃b,ix (.lst a) .none=some b∧K b)=K false:=vH
@[simp ↓ high] theorem Gi{a:Int}{K:Bool→Prop}:(∃b,ix (.int a) .none=some b∧K b)=K false:=vH
@[simp ↓ high] theorem Gj{a c:Bool}{K:Bool→Prop}:(∃b,ix (.bool a) (.bool c)=some b∧K b)=K (a==c):=vH
@[simp ↓ high] theorem rO{QG:bk→Hp→Prop}{X:XS}{loc:bk}:lT (gp aG []) [] QG X loc hp=QG loc hp:=rfl
@[simp ↓ high] theorem rN{QG:bk→Hp→Prop}{X:XS}{loc:bk}{i:Nat}{is:List Nat}{u:V}{us:List V}:lT (gp aG (i::is)) (u::us) QG X loc hp=lT (gp aG is) us QG X (upd loc i u) hp:=rfl
@[simp ↓ high] theorem Et{QG:bk→Hp→Prop}{X:XS}{loc:bk}{t:DA}{ts:List DA}{u:V}{us:List V}:lT (t::ts) (u::us) QG X loc hp=t u (λloc1 hp1=>lT ts us QG X loc1 hp1) X loc hp:=rfl
@[simp ↓ high] theorem Es{QG:bk→Hp→Prop}{X:XS}{loc:bk}:lT [] [] QG X loc hp=QG loc hp:=rfl
@[simp ↓ high] theorem rC{e:DE}{K:List V→Hp→Prop}{acc:List V}{loc:bk}:dJ e K acc loc hp=(acc.length≤lim∧e (λv hp1=>K (acc++[v]) hp1) noXA loc hp):=rfl
theorem nK{C:Addr}{i:Nat}{fs:List (Nat×V)}{v:V}(h:fs.lookup i=some v)(n:k6 v=true):b4 C i (.obj C fs) Q hp=Q v hp:=by
 apply propext;constructor
 ·rintro⟨_,u,h1,_,q⟩;rw[h]at h1;cases h1;exact q
 ·intro q;exact⟨rfl,v,h,n,q⟩
theorem at_ref{C a dd:Addr}{i:Nat}{fs:List (Nat×V)}{v:V}(h1:hp a=some (.inst C dd))(h2:hp dd=some (.ns fs))(h:fs.lookup i=some v)(n:k6 v=true):b4 C i (.ref a) Q hp=Q v hp:=by
 apply propext;constructor
 ·rintro⟨d',fs',u,e1,e2,e3,_,q⟩;rw[h1]at e1;cases e1;rw[h2]at e2;cases e2;rw[h]at e3;cases e3;exact q
 ·intro q;exact⟨dd,fs,v,h1,h2,h,n,q⟩
theorem setA_ref{C a dd:Addr}{i:Nat}{fs:List (Nat×V)}{v:V}{K:Hp→Prop}(h1:hp a=some (.inst C dd))(h2:hp dd=some (.ns fs))(hl:fs.length≤1000):go C i (.ref a) v K hp=K (upd hp dd (.ns (kl fs i v))):=by
 apply propext;constructor
 ·rintro⟨d',fs',e1,e2,e3,q⟩;rw[h1]at e1;cases e1;rw[h2]at e2;cases e2;exact q
 ·intro q;exact⟨dd,fs,h1,h2,hl,q⟩
theorem sl_ref{C a:Addr}{k:Nat}{vs:List (Option V)}{v:V}(h1:hp a=some (.sl C vs))(h:vs[k]?=some (some v))(n:k6 v=true):iy C k (.ref a) Q hp=Q v hp:=by
 apply propext;constructor
 ·rintro⟨vs',u,e1,e2,_,q⟩;rw[h1]at e1;cases e1;rw[h]at e2;cases e2;exact q
 ·intro q;exact⟨vs,v,h1,h,n,q⟩
theorem setS_ref{C a:Addr}{k:Nat}{vs:List (Option V)}{v:V}{K:Hp→Prop}(h1:hp a=some (.sl C vs)):k8 C k (.ref a) v K hp=K (upd hp a (.sl C (lY vs k v))):=by
 apply propext;constructor
 ·rintro⟨vs',e1,q⟩;rw[h1]at e1;cases e1;exact q
 ·intro q;exact⟨vs,h1,q⟩
theorem item_dict{a:Addr}{es:List (Int×V)}{ep:Nat}{k:Int}{v:V}(h1:hp a=some (.dict es ep))(h:sw es k=some v):bw (.ref a) (.int k) Q hp=Q v hp:=by
 refine propext ⟨λq=>?_,λq=>⟨_,rfl,?_⟩⟩
 ·obtain⟨j,e,q⟩:=q;cases e;dsimp only at q;rw[h1]at q;obtain⟨u,e,q⟩:=q;cases h.symm.trans e;exact q
 ·dsimp only;rw[h1];exact⟨v,h,q⟩
theorem item_list{a:Addr}{vs:List V}{k:Int}{v:V}(h1:hp a=some (.lst vs))(hl:vs.length≤lim)(h:eN vs k=some v):bw (.ref a) (.int k) Q hp=Q v hp:=by
 refine propext ⟨λq=>?_,λq=>⟨_,rfl,?_⟩⟩
 ·obtain⟨j,e,q⟩:=q;cases e;dsimp only at q;rw[h1]at q;obtain⟨_,u,e,q⟩:=q;cases h.symm.trans e;exact q
 ·dsimp only;rw[h1];exact⟨hl,v,h,q⟩
theorem len_ref{a:Addr}{vs:List V}(h1:hp a=some (.lst vs))(hl:vs.length≤lim):d9 [.ref a] Q XE hp=Q (.int vs.length) hp:=by
 have e:Bb hp (.ref a)=some vs.length:=congrArg (λo=>match o with|some (O.dict es _)=>some es.length|some (.lst vs)=>some vs.length|_=>ae) h1
 exact(xo.trans (vQ e)).trans (propext (and_iff_right hl))
theorem sW{a:Addr}{vs:List V}(h1:hp a=some (.lst vs))(hl:vs.length≤lim):sQ [.ref a] Q XE hp=Q (.tup vs) hp:=by
 exact(xo.trans (vQ (listOf_ref h1))).trans (propext (and_iff_right hl))
theorem v9{a:Addr}{vs:List V}{k:Nat}{v:V}{K:Hp→Prop}(h1:hp a=some (.lst vs))(hk:k<vs.length)(hl:vs.length≤lim):u5 (.ref a) (.int k) v K hp=K (upd hp a (.lst (vs.set k v))):=by
 refine propext ⟨λq=>?_,λq=>⟨_,_,rfl,rfl,?_⟩⟩
 ·obtain⟨b,j,e,e',q⟩:=q;cases e;cases e';rw[h1]at q;exact q.2.2.2
 ·rw[h1];exact⟨aN k,dm.mpr hk,hl,q⟩
end
noncomputable def nxt(b:DS)(Q:Fw→bk→Hp→Prop)(X:XS):Fw→bk→Hp→Prop:=λw l h=>match w with| .next=>b Q X l h|w=>Q w l h
theorem us{α:Type}{f:Nat→Option α}{i:Nat}{v:α}:upd f i v i=some v:=upd_same ..
section
variable{a b:DS}{Q:Fw→bk→Hp→Prop}{X:XS}{l:bk}{hp:Hp}
theorem sq(h:a (nxt b Q X) X l hp):aA a b Q X l hp:=h
theorem nx(h:b Q X l hp):nxt b Q X .next l hp:=h
theorem xg{v:V}(h:Q (.ret v) l hp):nxt b Q X (.ret v) l hp:=h
theorem nsq{c:DS}(h:a (nxt c Q X) X l hp):nxt (aA a c) Q X .next l hp:=h
end
theorem BF{Q:Fw→bk→Hp→Prop}{X:XS}{l:bk}{hp:Hp}(h:Q .next l hp):nxt aH Q X .next l hp:=h
theorem B6{i:Nat}{v:V}{Q:Fw→bk→Hp→Prop}{X:XS}{loc:bk}{hp:Hp}(q:Q .next (upd loc i v) hp):bB (aQ v) (aG i) Q X loc hp:=q
theorem rv{o:Option V}{x:V}{K:V→Prop}(h:o=some x)(q:K x):∃v,o=some v∧K v:=⟨x,h,q⟩
theorem xb{b:Bool}{K:Bool→Prop}(q:K b):∃c,V.bool b= .bool c∧K c:=⟨b,rfl,q⟩
theorem xt{b:List V}{K:List V→Prop}(q:K b):∃c,V.tup b= .tup c∧K c:=⟨b,rfl,q⟩
theorem iT{c a b:Prop}[Decidable c](h:c)(q:a):if c then a else b:=by rw[if_pos h];exact q
theorem iF{c a b:Prop}[Decidable c](h:¬c)(q:b):if c then a else b:=by rw[if_neg h];exact q
theorem zM{A B:Hp→Prop}{X:XA}{loc:bk}{hp:Hp}(q:A hp):fNone (λb hp=>if b=true then A hp else B hp) X loc hp:=by
 rw[rQ,if_pos rfl];exact q
section
variable{Q:V→Hp→Prop}{X:XA}{hp:Hp}{a:List V}{k:Int}{ns:List Int}{r:Addr}
theorem gv{Q:bk→Hp→Prop}{X:XS}{loc:bk}{i:Nat}{v:V}(q:Q (upd loc i v) hp):aG i v Q X loc hp:=q
theorem cn{Q:V→Hp→Prop}{X:XA}{loc:bk}{hp:Hp}{v:V}(q:Q v hp):aQ v Q X loc hp:=q
theorem nl{Q:List V→Hp→Prop}{X:XA}{loc:bk}{hp:Hp}(q:Q [] hp):aF Q X loc hp:=q
theorem EN{Q:bk→Hp→Prop}{X:XS}{loc:bk}{hp:Hp}{i j:Nat}{u w:V}(q:Q (upd (upd loc i u) j w) hp):lS ([i,j].map aG) (.tup [u,w]) Q X loc hp:=⟨_,rfl,q⟩
theorem Gy{es:List (Int×V)}{ep:Nat}{v:V}(h:hp r=some (.dict es ep))(hv:sw es k=some v)(q:Q v hp):bw (.ref r) (.int k) Q hp:=(item_dict h hv).mpr q
theorem Gs{C:Addr}{k:Nat}{vs:List (Option V)}{v:V}(h:hp r=some (.sl C vs))(hv:vs[k]?=some (some v))(n:k6 v=true)(q:Q v hp):iy C k (.ref r) Q hp:=(sl_ref h hv n).mpr q
theorem GC{C d:Addr}{i:Nat}{fs:List (Nat×V)}{v:V}(h:hp r=some (.inst C d))(h2:hp d=some (.ns fs))(hv:fs.lookup i=some v)(n:k6 v=true)(q:Q v hp):b4 C i (.ref r) Q hp:=(at_ref h h2 hv n).mpr q
theorem A5(q:a.length≤lim∧Q (.int a.length) hp):d9 [.lst a] Q X hp:=AP.mpr q
theorem A3(q:Q (.rng 0 k) hp):cJ [.int k] Q X hp:=nV.mpr q
theorem Gt{j:Int}(q:Q (.rng j k) hp):iI [.int j,.int k] Q X hp:=lL.mpr q
theorem ES{j:Int}(q:Q (.int (j+k)) hp):ef (.int j) (.int k) Q hp:=q
theorem F0(q:a.length≤lim∧∃v,eN a k=some v∧Q v hp):bw (.lst a) (.int k) Q hp:=j4.mpr q
theorem EP{l u st:V}(q:∃lo hi k,a.length≤lim∧jT l=some lo∧jT u=some hi∧jT st=some k∧k≠some 0∧Q (.lst (oy a lo hi k)) hp):zU (.lst a) l u st Q hp:=oS.mpr q
theorem Gr(q:ns.length<64∧Q (.lst ((sortZ ns).map .int)) hp):lr [.lst (ns.map .int)] Q X hp:=tB.mpr q
theorem F3{b:List V}(q:a.length+b.length≤lim∧Q (.lst (a++b)) hp):ef (.lst a) (.lst b) Q hp:=oU.mpr q
theorem EL(h:hp r=some (.lst a))(hl:a.length≤lim)(q:Q (.int a.length) hp):d9 [.ref r] Q X hp:=(len_ref h hl).mpr q
theorem FZ{v:V}(h:hp r=some (.lst a))(hl:a.length≤lim)(hv:eN a k=some v)(q:Q v hp):bw (.ref r) (.int k) Q hp:=(item_list h hl hv).mpr q
end
noncomputable def Grow(hp hp':Hp):Prop:=∀a o,hp a=some o→hp' a=some o
theorem Grow.refl(hp:Hp):Grow hp hp:=λz z h=>h
theorem Grow.trans{a b c:Hp}(x:Grow a b)(y:Grow b c):Grow a c:=λz z h=>y _ _ (x _ _ h)
theorem Grow.new{hp:Hp}{a:Addr}{o:O}(h:hp a=ae):Grow hp (upd hp a o):=λb ob e=>by
 rw[upd_ne];exact e
 rintro rfl;rw[h]at e;cases e
theorem Grow.upd{hp hp':Hp}{a:Addr}{o:O}(x:Grow hp hp')(h:hp a=ae):Grow hp (upd hp' a o):=λb ob e=>by
 rw[upd_ne];exact x _ _ e
 rintro rfl;rw[h]at e;cases e
theorem Grow.del{hp hp':Hp}{a:Addr}(x:Grow hp hp')(h:hp a=ae):Grow hp (del hp' a):=λb ob e=>by
 rw[del_ne];exact x _ _ e
 rintro rfl;rw[h]at e;cases e
theorem Grow.back{hp hp':Hp}{a:Addr}(x:Grow hp hp')(h:hp' a=ae):hp a=ae:=by
 cases q:hp a with
 |none=>rfl
 |some o=>have:=x _ _ q;rw[h]at this;cases this
theorem lim2(n:Nat)(h:n≤1000):n≤lim:=ac h (of_decide_eq_true rfl)
theorem lim4{n:Nat}(h:n≤10001):n≤lim:=ac h (of_decide_eq_true rfl)
theorem BM{n:Nat}(h:n≤999999):n≤lim:=ac h (of_decide_eq_true rfl)
theorem AT(vs:List V):∀(n m:Nat),m+n≤vs.length→(az n).filterMap ((λx=>vs[x]?)∘λx=>m+x)=(vs.drop m).take n:=by
 intro n
 induction n with
 |zero=>intro m _;rfl
 |succ n ih=>
  intro m hm
  rw[pZ,List.filterMap_append,ih m (cw hm),List.take_add_one]
  congr 1
  have:m+n<vs.length:=hm
  simp[au this]
theorem mX(n k:Nat):clipAt n (k:Int)=min k n:=by
 unfold clipAt
 rw[if_neg (Fn.mpr (aN k))]
 rcases Nat.le_total k n with h|h
 ·rw[Int.min_eq_left (bC.mpr h),gN (aN _),c7,hU h]
 ·rw[Int.min_eq_right (bC.mpr h),gN (aN _),c7,AY h]
theorem cut_core(vs:List V){lo hi:Option Int}{a b:Nat}(ha:lo.elim 0 (clipAt vs.length)=a)(hb:hi.elim vs.length (clipAt vs.length)=b)(h:a≤b)(h2:b≤vs.length):oy vs lo hi ae=(vs.take b).drop a:=by
 unfold oy
 rw[sliceBounds_plain]
 simp only[]
 rw[sliceRange_one,ha,hb,List.filterMap_map,AT _ _ _ (by rw[gh h];exact h2),Bw]
theorem pG(vs:List V)(k:Nat):oy vs ae (some (k:Int)) ae=vs.take k:=
 (cut_core vs (lo:=ae) (hi:=some (k:Int)) rfl (mX _ _) (bx _) (kS _ _)).trans List.take_eq_take_min.symm
theorem zj(vs:List V){a b:Nat}(h1:a≤b)(h2:b≤vs.length):oy vs (some (a:Int)) (some (b:Int)) ae=(vs.take b).drop a:=
 cut_core vs (lo:=some (a:Int)) (hi:=some (b:Int)) ((mX _ _).trans (hU (ac h1 h2))) ((mX _ _).trans (hU h2)) h1 h2
theorem mW(vs:List V)(k:Nat):oy vs (some (k:Int)) ae ae=vs.drop k:=by
 rw[cut_core vs (lo:=some (k:Int)) (hi:=ae) (b:=vs.length) (mX _ _) rfl (kS _ _) (b8 _),List.take_length]
 by_cases h:k≤vs.length
 ·rw[hU h]
 ·have h:=eH h
  rw[AY h,tT h,o6]
theorem AW{α:Type}(enc:α→V)(p:α→Bool)(g:α→V){v:V}{hp0:Hp}{t:DA}{f:DT}{inner:CD}{K:List V→Hp→Prop}{loc:bk}:∀(xs:List α)(acc:List V)(hp:Hp),acc.length+xs.length≤lim→(∀hp',Grow hp hp'→same v hp0 hp')→
 (∀x∈xs,∀hp1,Grow hp hp1→∀(acc:List V),acc.length≤lim→∀(R:List V→Hp→Prop),(∀hp2,Grow hp1 hp2→R (if p x then acc++[g x]else acc) hp2)→
  t (enc x) (λloc1 hp2=>f (λb hp3=>if b then inner R acc loc1 hp3 else R acc hp3) noXA loc1 hp2) o8 loc hp1)→
 (∀hp2,Grow hp hp2→K (acc++(xs.filter p).map g) hp2)→lQ v hp0 t f inner K (xs.map enc) acc loc hp:=by
 intro xs_
 induction xs_ with
 |nil=>
  intro acc hp _ _ _ h
  simpa[cLpN]using h hp (.refl _)
 |cons x xs ih=>
  intro acc hp hl hs st h
  rw[ar,zT]
  have hl':acc.length+(xs.length+1)≤lim:=hl
  refine st x ak hp (.refl _) acc (ac (aM _ _) hl') (λacc' hp3=>same v hp0 hp3∧lQ v hp0 t f inner K (xs.map enc) acc' loc hp3) λhp2 g2=>⟨hs _ g2,?_⟩
  refine ih _ hp2 ?_ (λhp' k=>hs _ (g2.trans k)) (λu' hu hp1 k=>st u' (aq _ hu) hp1 (g2.trans k)) λhp3 k=>?_
  ·split
   ·exact jI hl'
   ·exact cw hl'
  ·have:=h hp3 (g2.trans k)
   rw[aU]at this
   split
   ·rename_i c;simpa[c]using this
   ·rename_i c;simpa[c]using this
theorem cLp_pure{α:Type}(enc:α→V)(p:α→Bool)(g:α→V){v:V}{hp0:Hp}{t:DA}{f:DT}{inner:CD}{K:List V→Hp→Prop}{loc:bk}:∀(xs:List α)(acc:List V)(hp:Hp),acc.length+xs.length≤lim→same v hp0 hp→
 (∀x∈xs,∀(acc:List V),acc.length≤lim→∀(R:List V→Hp→Prop),R (if p x then acc++[g x]else acc) hp→
  t (enc x) (λloc1 hp2=>f (λb hp3=>if b then inner R acc loc1 hp3 else R acc hp3) noXA loc1 hp2) o8 loc hp)→
 K (acc++(xs.filter p).map g) hp→lQ v hp0 t f inner K (xs.map enc) acc loc hp:=by
 intro xs_
 induction xs_ with
 |nil=>
  intro acc hp _ _ _ h
  simpa[cLpN]using h
 |cons x xs ih=>
  intro acc hp hl hs st h
  rw[ar,zT]
  have hl':acc.length+(xs.length+1)≤lim:=hl
  refine st x ak acc (ac (aM _ _) hl') (λacc' hp3=>same v hp0 hp3∧lQ v hp0 t f inner K (xs.map enc) acc' loc hp3) ⟨hs,?_⟩
  refine ih _ hp ?_ hs (λu' hu=>st u' (aq _ hu)) ?_
  ·split
   ·exact jI hl'
   ·exact cw hl'
  ·rw[aU]at h
   split
   ·rename_i c;simpa[c]using h
   ·rename_i c;simpa[c]using h
theorem rng_small{lo hi:Int}(h: -(2 ^ 40)<lo)(h2:hi<2 ^ 40)(h3:lo≤hi):bQ lo hi 1=true:=by
 simp[bQ,b9,Ee]
 have a: -9223372036854775808≤lo:=fO (by decide) (oE h)
 have b:hi<9223372036854775808:=oC h2 (by decide)
 refine⟨⟨⟨⟨a,zE h3 b⟩,fO a h3,b⟩,?_⟩,.inr ⟨fO a h3,b⟩⟩
 split
 ·exact⟨fO (by decide) (mD h3),oC (Int.sub_lt_sub h2 h) (by decide)⟩
 ·exact⟨by decide,by decide⟩
theorem fK{hp:Hp}{lo hi:Int}(h: -(2 ^ 40)<lo)(h2:hi<2 ^ 40):eh hp (.rng lo hi)=some (dp lo hi):=if_pos ((DZ lo hi).imp (rng_small h h2) id)
theorem i9(n:Nat):dp 0 n=(az n).map λk=>.int (k:Nat):=by
 unfold dp
 simp
section
variable{α:Type}{v:V}{hp0 hp:Hp}{loc:bk}{i n:Nat}{e src:DE}{f:DT}{K:List V→Hp→Prop}{Q:V→Hp→Prop}{X:XA}{fr:List Nat}(enc g:α→V)(p:α→Bool){xs:List α}
theorem xn(hz:xs.length≤1000)(hs:same v hp0 hp)(tst:∀x∈xs,∀R:Bool→Hp→Prop,R (p x) hp→f R noXA (upd loc i (enc x)) hp)
 (st:∀x∈xs,p x=true→∀R:V→Hp→Prop,R (g x) hp→e R noXA (upd loc i (enc x)) hp)(q:K ((xs.filter p).map g) hp):lQ v hp0 (aG i) f (dJ e) K (xs.map enc) [] loc hp:=by
 refine cLp_pure enc p g xs [] hp (by rw[dY,bH];exact lim2 _ hz) hs (λx hx acc ha R hR=>gv (tst x hx _ ?_)) q
 cases c:p x with
 |true=>rw[c,if_pos rfl]at hR;exact iT rfl ⟨ha,st x hx c _ hR⟩
 |false=>rw[c,if_neg bL]at hR;exact iF bL hR
theorem vN(hz:xs.length≤1000)(hs:same v hp0 hp)(st:∀x∈xs,∀R:V→Hp→Prop,R (g x) hp→e R noXA (upd loc i (enc x)) hp)(q:K (xs.map g) hp):lQ v hp0 (aG i) fNone (dJ e) K (xs.map enc) [] loc hp:=
 xn enc g (λz=>true) hz hs (λz z z h=>h) (λx hx z=>st x hx) (by rw[cm.mpr λz z=>rfl];exact q)
end
section
variable{hp:Hp}{loc:bk}{i n:Nat}{e src:DE}{f:DT}{Q:V→Hp→Prop}{X:XA}{fr:List Nat}
theorem Bj(p:Nat→Bool)(g:Nat→V)(hn:n≤1000)(hs:∀R:V→Hp→Prop,R (.int (n:Nat)) hp→src R X loc hp)(tst:∀k<n,∀R:Bool→Hp→Prop,R (p k) hp→f R noXA (upd (keepL fr loc) i (.int (k:Nat))) hp)
 (st:∀k<n,p k=true→∀R:V→Hp→Prop,R (g k) hp→e R noXA (upd (keepL fr loc) i (.int (k:Nat))) hp)(q:Q (.lst (((az n).filter p).map g)) hp):cI fr (aT cJ (av src aF)) (aG i) f (dJ e) Q X loc hp:=
 hs _ (nl (A3 ⟨_,fK (by decide) (sG hn (by decide)),i9 n▸xn (λk:Nat=>.int (k:Nat)) g p (by rw[aK];exact hn) trivial (λk hk=>tst k (aW.mp hk)) (λk hk=>st k (aW.mp hk)) q⟩))
theorem u3(g:Nat→V)(hn:n≤1000)(hs:∀R:V→Hp→Prop,R (.int (n:Nat)) hp→src R X loc hp)(st:∀k<n,∀R:V→Hp→Prop,R (g k) hp→e R noXA (upd (keepL fr loc) i (.int (k:Nat))) hp)
 (q:Q (.lst ((az n).map g)) hp):cI fr (aT cJ (av src aF)) (aG i) fNone (dJ e) Q X loc hp:=
 hs _ (nl (A3 ⟨_,fK (by decide) (sG hn (by decide)),i9 n▸vN (λk:Nat=>.int (k:Nat)) g (by rw[aK];exact hn) trivial (λk hk=>st k (aW.mp hk)) q⟩))
end
noncomputable def cl:List Nat→Nat
 | []=>0
 |r::rs=>max (r+1) (cl rs)
noncomputable def cnt(rows:List Nat):List Int:=(az (cl rows)).map λj=>(rows.count j:Int)
noncomputable def nOf(rows:List Nat)(b:Nat):Nat:=(rows.map (·+1)).sum+b
noncomputable def parse:List Nat→List Nat→Nat→List Nat×Nat
 | [],rows,b=>(rows,b)
 |c::l,rows,b=>if c=32 then parse l rows (b+1)else if c=9 then parse l (rows++[b]) 0 else(rows,b)
theorem wI(rows rs:List Nat):cl (rows++rs)=max (cl rows) (cl rs):=by
 induction rows with
 |nil=>simp[cl]
 |cons r rows ih=>rw[dq,cl,cl,ih,Nat.max_assoc]
theorem cl_snoc(rows:List Nat)(b:Nat):cl (rows++[b])=max (cl rows) (b+1):=by simp[wI,cl]
theorem cl_le:∀(rows:List Nat)(r:Nat),r∈rows→r+1≤cl rows:=by
 intro xs_
 induction xs_ with
 |nil=>
  intros;simp_all
 |cons r' rows ih=>
  intro r h
  simp only[cl]
  rcases am.mp h with h|h
  ·subst h;exact jx _ _
  ·exact ac (ih r h) (fG _ _)
theorem cnt_len(rows:List Nat):(cnt rows).length=cl rows:=by simp[cnt]
theorem zm{rows:List Nat}{b:Nat}{c:List Int}(hl:c.length=max (cl rows) (b+1))(hc:∀j x,c[j]?=some x→x=(rows.count j:Int)){x:Int}(hx:c[b]?=some x):c.set b (x+1)=cnt (rows++[b]):=by
 apply kc
 intro j
 unfold cnt
 rw[cl_snoc,←hl,e7]
 by_cases hj:j<c.length
 ·rw[mJ hj]
  by_cases q:b=j
  ·subst q
   rw[List.getElem?_set_self hj,hc b x hx]
   simp
  ·rw[List.getElem?_set_ne q]
   have:=hc j c[j] (au hj)
   rw[au hj,this]
   simp[zA,fP,q]
 ·rw[c8 (by simpa using hj)]
  rw[c8 (by simpa using hj)];rfl
theorem vq{rows:List Nat}{j:Nat}{x:Int}(h:(cnt rows)[j]?=some x):x=(rows.count j:Int):=by
 unfold cnt at h
 rw[e7]at h
 by_cases hj:j<cl rows
 ·rw[mJ hj]at h;simpa using h.symm
 ·rw[c8 (by simpa using hj)]at h;cases h
theorem count_big{rows:List Nat}{j:Nat}(h:cl rows≤j):rows.count j=0:=by
 apply dN.mpr
 intro hm
 exact fe _ (ac (cl_le rows j hm) h)
theorem cnt_pad{rows:List Nat}{k j:Nat}{x:Int}(h:(cnt rows++aB k 0)[j]?=some x):x=(rows.count j:Int):=by
 by_cases hj:j<(cnt rows).length
 ·rw[List.getElem?_append_left hj]at h;exact vq h
 ·rw[List.getElem?_append_right (bZ hj)]at h
  rw[count_big (by rw[cnt_len]at hj;exact bZ hj)]
  have:=dx h
  simp at this
  simp[this.2]
theorem xT(rows:List Nat)(b:Nat):nOf rows (b+1)=nOf rows b+1:=rfl
theorem rJ(rows:List Nat)(b:Nat):nOf (rows++[b]) 0=nOf rows b+1:=by unfold nOf;rw[dG,A0];rfl
theorem x6{Q:V→Hp→Prop}{hp:Hp}{c d:Nat}(hc:c<128)(hd:d<128):pX (.str [c]) (.str [d]) Q hp=Q (.bool (decide (c=d))) hp:=by
 have e:cy (.str ⟨[c].toArray⟩) (.str ⟨[d].toArray⟩)=decide (c=d):=by
  show((⟨[c].toArray⟩:Str)==⟨[d].toArray⟩)=_
  by_cases h:c=d
  ·subst h;simp
  ·simp[h]
 have sh:∀c,c<128→bO (.str ⟨[c].toArray⟩)=true:=by
  intro c h
  simp[bO,fp,gu,PyData.strOk]
  first|exact aE h (by decide)|exact ac (dD h) (by decide)
 apply propext;constructor
 ·rintro⟨x,y,h1,h2,_,_,h⟩
  cases h1;cases h2;rw[←e];exact h
 ·intro h;exact⟨_,_,rfl,rfl,sh c hc,sh d hd,by rw[e];exact h⟩
structure WI(hpI:Hp)(x dd:Addr)(raw:List Nat)(rows:List Nat)(b:Nat)(loc:bk)(hp:Hp)(a:Addr):Prop where
 l0:loc 0=some (.ref x)
 l27:loc 27=some (.str [32])
 l28:loc 28=some (.str [9])
 l29:loc 29=some (.ref a)
 l30:loc 30=some (.int b)
 l31:loc 31=some (.int (nOf rows b))
 l32:loc 32=some (.int rows.length)
 ha:hp a=some (.lst ((cnt rows).map .int))
 na:hpI a=ae
 gr:Grow hpI hp
theorem rh{i:Nat}{n:Int}{Q:Fw→bk→Hp→Prop}{X:XS}{loc:bk}{hp:Hp}(h:loc i=some (.int n))(q:Q .next (upd loc i (.int (n+1))) hp):bB (aZ ef (ai i) (aQ (.int 1))) (aG i) Q X loc hp:=by
 rw[eY,d1,be,rd h];exact q
theorem A9{i c k:Nat}{a b:DS}{Q:Fw→bk→Hp→Prop}{X:XS}{loc:bk}{hp:Hp}(hc:c<128)(hk:k<128)(h33:loc 33=some (.str [c]))(h:loc i=some (.str [k])):kg (cG pX (ai 33) (ai i)) a b Q X loc hp=if c=k then a Q X loc hp else b Q X loc hp:=by
 simp only[pg,jU,be,rd h33,rd h,x6 hc hk,jb,decide_eq_true_eq]
theorem Ab{Q:Fw→bk→Hp→Prop}{X:XS}{hpI hp:Hp}{a:Addr}{rows:List Nat}{b:Nat}{loc:bk}(hb:b≤10000)(hz2:cl rows≤10000)(l29:loc 29=some (.ref a))(l30:loc 30=some (.int b))(ha:hp a=some (.lst ((cnt rows).map .int)))(na:hpI a=ae)(gr:Grow hpI hp)
 (q:∀loc' hp' a' (c:List Int),(∀i,i≠29→loc' i=loc i)→loc' 29=some (.ref a')→hp' a'=some (.lst (c.map .int))→c.length=max (cl rows) (b+1)→(∀j x,c[j]?=some x→x=(rows.count j:Int))→hpI a'=ae→Grow hpI hp'→Q .next loc' hp'):
 kg (cG (iZ λa b=>decide (b≤a)) (ai 30) (aT d9 (av (ai 29) aF))) (aA (bB (aZ xI (ai 29) (aZ kG (jS (av (aQ (.int 0)) aF)) (aZ ef (aZ (mj (·- ·)) (ai 30) (aT d9 (av (ai 29) aF))) (aQ (.int 1))))) (aG 29)) aH) aH Q X loc hp:=by
 have hlim:((cnt rows).map V.int).length≤lim:=by rw[aj,cnt_len];exact lim4 (cu hz2)
 have hlen:((cnt rows).map V.int).length=cl rows:=by rw[aj,cnt_len]
 repeat first|refine rv l29 ?_|refine rv l30 ?_|refine EL ha hlim ?_|refine xb ?_|refine nl ?_
 try simp only[hlen,decide_eq_true_eq]
 split
 ·rename_i hge
  have hge':cl rows≤b:=bC.mp hge
  obtain⟨k,hk⟩:∃k:Nat,(b:Int) - (cl rows:Int)+1=(k:Int)∧cl rows+k=b+1:=⟨b - cl rows+1,congrArg (·+1) (BN hge'),congrArg (·+1) (gh hge')⟩
  have hk5:cl rows+k≤10001:=ac (ax hk.2) (aI hb)
  have hk4:k≤10001:=ac (cP _ _) hk5
  refine sq ?_
  simp only[eY,d1,be,rd l29,rd l30,rB,dS,cD,ek,dz,len_ref ha hlim,hlen,pv,nF,AR,iB,hk.1]
  refine⟨lim2 _ (by decide),j0 (by decide) (aN k),j0 (dm.mpr (c0 hk4)) (by decide),by simp;exact lim4 hk4,(cnt rows).map .int,_,listOf_ref ha,rfl,by simp[cnt_len];exact lim4 hk5,λl hln=>BF ?_⟩
  refine q _ _ l (cnt rows++aB k 0) (λi hi=>upd_ne hi) us (us.trans ?_) ?_ (λj x h=>cnt_pad h) (gr.back hln) (gr.upd (gr.back hln))
  ·simp
  ·rw[aJ,eU,cnt_len,hk.2];exact(i5 (cu hge')).symm
 ·rename_i hlt
  exact q loc hp a (cnt rows) (λ_ _=>rfl) l29 ha (by rw[cnt_len];exact(jw (cS λz=>hlt (bC.mpr z))).symm) (λj x h=>vq h) na gr
theorem B7{Q:Fw→bk→Hp→Prop}{X:XS}{hp:Hp}{a:Addr}{rows:List Nat}{b:Nat}{loc:bk}{c:List Int}(hb:b≤10000)(hz2:cl rows≤10000)(l29:loc 29=some (.ref a))(l30:loc 30=some (.int b))(ha:hp a=some (.lst (c.map .int)))
 (hl:c.length=max (cl rows) (b+1))(hc:∀j x,c[j]?=some x→x=(rows.count j:Int))(q:Q .next loc (upd hp a (.lst ((cnt (rows++[b])).map .int)))):
 bB (aZ ef (aZ bw (ai 29) (ai 30)) (aQ (.int 1))) (pf (ai 29) (ai 30)) Q X loc hp:=by
 have hlim:(c.map V.int).length≤lim:=by rw[aj,hl];exact lim4 (ig.mpr ⟨cu hz2,aI hb⟩)
 have hbl:b<c.length:=ac (fG _ _) (ax hl.symm)
 have hi:eN (c.map V.int) (b:Int)=some (.int c[b]):=by
  unfold eN
  rw[if_pos (aN b),c7,e7,au hbl];rfl
 rw[eY,d1,d1,be,rd l29,be,rd l30,item_list ha hlim hi,ek,nF,vm,be,rd l29,be,rd l30,v9 ha (by rw[aj];exact hbl) hlim]
 rw[←zm hl hc (au hbl),List.map_set]at q
 exact q
theorem z8{R:Fw→bk→Hp→Prop}{X:XS}{hpI hp:Hp}{x dd a:Addr}{raw rows:List Nat}{b c:Nat}{loc:bk}(hc:c<128)(w:WI hpI x dd raw rows b loc hp a)(h33:loc 33=some (.str [c]))(hz:nOf rows b≤10000)
 (hz2:cl rows≤10000)
 (q:∀loc' hp' a',WI hpI x dd raw (if c=32 then rows else if c=9 then rows++[b]else rows) (if c=32 then b+1 else if c=9 then 0 else b) loc' hp' a'→R (if c=32∨c=9 then .next else .brk) loc' hp'):fg R X loc hp:=by
 have hb:b≤10000:=ac (cP _ _) hz
 unfold fg
 refine sq ?_
 rw[A9 hc (by decide) h33 w.l27]
 by_cases c1:c=32
 ·refine iT c1 ?_
  rw[if_pos c1,if_pos c1,if_pos (.inl c1)]at q
  refine sq (rh w.l31 (nsq (rh ((upd_ne (by decide)).trans w.l30) (BF (BF ?_)))))
  have o:∀i,i≠31→i≠30→upd (upd loc 31 (.int (nOf rows b+1))) 30 (.int ((b:Int)+1)) i=loc i:=λi h1 h2=>(upd_ne h2).trans (upd_ne h1)
  exact q _ _ a ⟨(o _ (by decide) (by decide)).trans w.l0,(o _ (by decide) (by decide)).trans w.l27,(o _ (by decide) (by decide)).trans w.l28,(o _ (by decide) (by decide)).trans w.l29,us,(upd_ne (by decide)).trans (us.trans (by rw[xT];rfl)),(o _ (by decide) (by decide)).trans w.l32,w.ha,w.na,w.gr⟩
 ·refine iF c1 ?_
  rw[if_neg c1,if_neg c1]at q
  refine sq ?_
  rw[A9 hc (by decide) h33 w.l28]
  by_cases c2:c=9
  ·refine iT c2 ?_
   rw[if_pos c2,if_pos c2,if_pos (.inr c2)]at q
   refine sq (rh w.l31 (nsq (rh ((upd_ne (by decide)).trans w.l32) (nsq ?_))))
   have o:∀i,i≠31→i≠32→upd (upd loc 31 (.int (nOf rows b+1))) 32 (.int ((rows.length:Int)+1)) i=loc i:=λi h1 h2=>(upd_ne h2).trans (upd_ne h1)
   refine Ab hb hz2 ((o _ (by decide) (by decide)).trans w.l29) ((o _ (by decide) (by decide)).trans w.l30) w.ha w.na w.gr λloc1 hp1 a1 cc f f29 h1 h2 h3 h4 h5=>nsq ?_
   have o2:∀i,i≠29→i≠31→i≠32→loc1 i=loc i:=λi h0 h1 h2=>(f i h0).trans (o i h1 h2)
   refine B7 hb hz2 f29 ((o2 _ (by decide) (by decide) (by decide)).trans w.l30) h1 h2 h3 (nsq (B6 (BF (BF (BF ?_)))))
   have o3:∀i,i≠30→i≠29→i≠31→i≠32→upd loc1 30 (.int 0) i=loc i:=λi hh h0 h1 h2=>(upd_ne hh).trans (o2 i h0 h1 h2)
   exact q _ _ a1 ⟨(o3 _ (by decide) (by decide) (by decide) (by decide)).trans w.l0,(o3 _ (by decide) (by decide) (by decide) (by decide)).trans w.l27,(o3 _ (by decide) (by decide) (by decide) (by decide)).trans w.l28,(upd_ne (by decide)).trans f29,us,
    (upd_ne (by decide)).trans ((f _ (by decide)).trans ((upd_ne (by decide)).trans (us.trans (by rw[rJ];rfl)))),(upd_ne (by decide)).trans ((f _ (by decide)).trans (us.trans (by rw[aJ];rfl))),us,h4,h5.upd h4⟩
  ·refine iF c2 ?_
   rw[if_neg c2,if_neg c2,if_neg (λz=>z.elim c1 c2)]at q
   exact q _ _ a w
theorem mQ:∀rows:List Nat,cl rows≤(rows.map (·+1)).sum:=by
 intro xs_
 induction xs_ with
 |nil=>
  simp[cl]
 |cons r rows ih=>
  simp only[cl,ar,bG];exact ig.mpr ⟨aM _ _,ac ih (cP _ _)⟩
theorem z7{Q:Fw→bk→Hp→Prop}{v:V}{hp0 hpI:Hp}{x dd:Addr}{raw:List Nat}(hv:∀h h',same v h h'):∀(l rows:List Nat)(b:Nat)(loc:bk)(hp:Hp)(a:Addr),(∀c∈l,c<128)→nOf rows b+l.length≤10000→WI hpI x dd raw rows b loc hp a→
 (∀loc' hp' a',WI hpI x dd raw (parse l rows b).1 (parse l rows b).2 loc' hp' a'→Q .next loc' hp')→eK v hp0 (aG 33) fg Q (l.map λc=>.str [c]) loc hp:=by
 intro xs_
 induction xs_ with
 |nil=>
  intro rows b loc hp a _ _ w q
  exact q loc hp a w
 |cons c l ih=>
  intro rows b loc hp a h hz w q
  refine gv ?_
  simp only[aD]at hz
  have w':WI hpI x dd raw rows b (upd loc 33 (.str [c])) hp a:=⟨by simp[upd,w.l0],by simp[upd,w.l27],by simp[upd,w.l28],by simp[upd,w.l29],by simp[upd,w.l30],by simp[upd,w.l31],by simp[upd,w.l32],w.ha,w.na,w.gr⟩
  have hcl:=mQ rows
  refine z8 (c:=c) (h c ak) w' (by simp) (ac (aM _ _) hz) (ac hcl (ac (aM _ b) (ac (aM _ _) hz))) λloc' hp' a' w2=>?_
  have h':∀c∈l,c<128:=λd hd=>h d (aq _ hd)
  by_cases c1:c=32
  ·simp only[c1,if_true,true_or]at w2⊢
   refine⟨hv _ _,ih rows (b+1) loc' hp' a' h' (by rw[xT,ba];exact hz) w2 λloc2 hp2 a2 w3=>q loc2 hp2 a2 ?_⟩
   simpa[parse,c1]using w3
  ·by_cases c2:c=9
   ·simp only[c1,c2,if_true,or_true,if_false]at w2⊢
    rw[if_neg (by decide),if_neg (by decide)]at w2
    refine⟨hv _ _,ih (rows++[b]) 0 loc' hp' a' h' (by rw[rJ,ba];exact hz) w2 λloc2 hp2 a2 w3=>q loc2 hp2 a2 ?_⟩
    simpa[parse,c1,c2]using w3
   ·simp only[c1,c2,or_self,if_false]at w2⊢
    refine q loc' hp' a' ?_
    simpa[parse,c1,c2]using w2
noncomputable def wFs(l rows:List Nat)(b:Nat):List (Nat×V):=[(26,.str l),(31,.int (nOf rows b)),(32,.int rows.length),(34,.tup [.tup ((cnt rows).map .int),.int b]),(35,.bool (decide (cl rows≤1)))]
noncomputable def wObj(l rows:List Nat)(b:Nat):V:=.obj cW (wFs l rows b)
theorem wg:∀(l rows:List Nat)(b:Nat),nOf (parse l rows b).1 (parse l rows b).2≤nOf rows b+l.length:=by
 intro xs_
 induction xs_ with
 |nil=>
  intro rows b
  simp[parse]
 |cons c l ih=>
  intro rows b
  unfold parse
  split
  ·exact ac (ih rows (b+1)) (ax (ba _ 1 _))
  ·split
   ·have:=ih (rows++[b]) 0;rw[rJ]at this;exact ac this (ax (ba _ 1 _))
   ·exact aM _ _
theorem rg{j:Nat}{v:V}{fs:List (Nat×V)}{Q:Fw→bk→Hp→Prop}{X:XS}{loc:bk}{Z:Hp}{x dd:Addr}{e:DE}(hne:x≠dd)(hx:Z x=some (.inst cW dd))(hl:fs.length≤10)(h0:loc 0=some (.ref x))
 (he:∀(K:V→Hp→Prop)(X:XA),e K X loc (upd Z dd (.ns fs))=K v (upd Z dd (.ns fs)))(q:Q .next loc (upd Z dd (.ns (kl fs j v)))):bB e (jE (go cW j) (ai 0)) Q X loc (upd Z dd (.ns fs)):=by
 have uu:upd (upd Z dd (.ns fs)) dd (.ns (kl fs j v))=upd Z dd (.ns (kl fs j v)):=by funext k;simp only[upd];split<;>rfl
 rw[eY,he,x9,be,rd h0,setA_ref ((upd_ne hne).trans hx) us (ac hl (by decide)),uu]
 exact q
theorem B1{Q:Fw→bk→Hp→Prop}{X:XS}{loc:bk}{hp:Hp}{x dd a:Addr}{l rows:List Nat}{b:Nat}(hne:x≠dd)(hax:a≠dd)(hcl:cl rows≤10000)
 (l0:loc 0=some (.ref x))(l29:loc 29=some (.ref a))(l30:loc 30=some (.int b))(l31:loc 31=some (.int (nOf rows b)))(l32:loc 32=some (.int rows.length))(hx:hp x=some (.inst cW dd))(hd:hp dd=some (.ns [(26,.str l)]))(ha:hp a=some (.lst ((cnt rows).map .int)))
 (q:Q .next loc (upd hp dd (.ns (wFs l rows b)))):
 aA (bB (ai 31) (jE (go cW 31) (ai 0))) (aA (bB (ai 32) (jE (go cW 32) (ai 0))) (aA (bB (mh (av (aT sQ (av (ai 29) aF)) (av (ai 30) aF))) (jE (go cW 34) (ai 0)))
  (aA (bB (aZ (iZ λa b=>decide (a≤b)) (aT d9 (av (ai 29) aF)) (aQ (.int 1))) (jE (go cW 35) (ai 0))) aH))) Q X loc hp:=by
 have hlim:((cnt rows).map V.int).length≤lim:=by rw[aj,cnt_len];exact lim4 (cu hcl)
 have m3:∀o,(upd hp dd o) a=some (.lst ((cnt rows).map .int)):=λo=>(upd_ne hax).trans ha
 have e0:hp=upd hp dd (.ns [(26,.str l)]):=by
  funext k
  by_cases z:k=dd
  ·subst z;rw[us];exact hd
  ·rw[upd_ne z]
 rw[e0]
 refine sq (rg hne hx (of_decide_eq_true rfl) l0 (λK X=>by rw[be,rd l31]) (nsq (rg hne hx (of_decide_eq_true rfl) l0 (λK X=>by rw[be,rd l32]) (nsq (rg hne hx (of_decide_eq_true rfl) l0 (v:=.tup [.tup ((cnt rows).map .int),.int b]) (λK X=>?_) (nsq (rg hne hx (of_decide_eq_true rfl) l0 (v:=.bool (decide (cl rows≤1))) (λK X=>?_) (BF ?_))))))))
 ·simp only[ya,cD,dS,be,rd l29,rd l30,dz,sW (m3 _) hlim,aD,dY]
  exact propext (and_iff_right (lim2 _ (by decide)))
 ·simp only[d1,dS,cD,be,rd l29,dz,len_ref (m3 _) hlim,ek,pw,aj,cnt_len]
  rw[show decide ((cl rows:Int)≤1)=decide (cl rows≤1)from decide_eq_decide.mpr bC]
 ·exact q
theorem Fc{Q:V→Hp→Prop}{X:XA}{l:List Nat}{hp:Hp}(h:∀c∈l,c<128)(hl:l.length≤10000)(q:∀hp',Grow hp hp'→Q (wObj l (parse l [] 0).1 (parse l [] 0).2) hp'):pz cW dU [.str l] Q X hp:=by
 intro x dd hx hd hne
 refine⟨[(0,.ref x),(25,.str l)],rfl,?_⟩
 unfold jP
 have o0:locOf [(0,V.ref x),(25,V.str l)] 0=some (.ref x):=rfl
 have o25:locOf [(0,V.ref x),(25,V.str l)] 25=some (.str l):=rfl
 generalize locOf [(0,V.ref x),(25,V.str l)]=lo at*
 have e1:(upd (upd hp dd (.ns [])) x (.inst cW dd)) x=some (.inst cW dd):=us
 have e2:(upd (upd hp dd (.ns [])) x (.inst cW dd)) dd=some (.ns []):=(upd_ne (aS hne)).trans us
 refine sq ?_
 rw[eY,be,rd o25,x9,be,rd o0,setA_ref e1 e2 (by simp)]
 generalize hh:upd (upd (upd hp dd (.ns [])) x (.inst cW dd)) dd (.ns (kl [] 26 (.str l)))=hpI
 have f1:hpI x=some (.inst cW dd):=by rw[←hh];exact(upd_ne hne).trans us
 have f2:hpI dd=some (.ns [(26,.str l)]):=by rw[←hh];exact us
 have f3:Grow hp hpI:=by
  intro b o e
  have n1:b≠dd:=by rintro rfl;rw[hd]at e;cases e
  have n2:b≠x:=by rintro rfl;rw[hx]at e;cases e
  rw[←hh,upd_ne n1,upd_ne n2,upd_ne n1];exact e
 clear hh e1 e2
 refine nsq ?_
 refine⟨lim2 _ (by decide),_,_,rfl,nsq ?_⟩
 refine⟨lim2 _ (by decide),λa ha=>?_⟩
 refine gv ?_
 refine nsq ?_
 repeat first|refine cn ?_|refine gv ?_
 generalize hl1:upd (upd (upd (upd (upd (upd lo 28 (.str [9])) 27 (.str [32])) 29 (.ref a)) 30 (.int 0)) 31 (.int 0)) 32 (.int 0)=lo1
 have w0:WI hpI x dd l [] 0 lo1 (upd hpI a (.lst [])) a:=by
  rw[←hl1]
  exact⟨by simp[upd,o0],by simp[upd],by simp[upd],by simp[upd],by simp[upd],by simp[upd,nOf],by simp[upd],us,ha,.new ha⟩
 clear hl1
 have nx1:x≠a:=by rintro rfl;rw[ha]at f1;cases f1
 have nx2:dd≠a:=by rintro rfl;rw[ha]at f2;cases f2
 refine nsq ?_
 have hit:eh (upd hpI a (.lst [])) (.str l)=some (l.map λc=>.str [c]):=by
  exact if_pos (by simpa using h)
 refine rv w0.l0 (GC ((upd_ne nx1).trans f1) ((upd_ne nx2).trans f2) (v:=.str l) rfl rfl ?_)
 rw[DL hit]
 refine z7 (hpI:=hpI) (x:=x) (dd:=dd) (raw:=l) (by simp) l [] 0 _ _ a h (ac (ax (bH _)) hl) w0 λloc' hp' a' w=>nx ?_
 have hn:=wg l [] 0
 generalize (parse l [] 0).1=rows at*
 generalize (parse l [] 0).2=b at*
 have hcl:cl rows≤10000:=ac (mQ rows) (ac (aM _ b) (ac hn (ac (ax (bH _)) hl)))
 refine B1 hne (by rintro rfl;rw[w.na]at f2;cases f2) hcl w.l0 w.l29 w.l30 w.l31 w.l32 (w.gr _ _ f1) (w.gr _ _ f2) w.ha ?_
 have:=q (del (del (upd hp' dd (.ns (wFs l rows b))) x) dd) ((((f3.trans w.gr).upd hd).del hx).del hd)
 simpa[wObj,wFs,upd_ne hne]using ⟨w.gr _ _ f1,this⟩
theorem lu(a b:Nat):dp (a:Int) (b:Int)=(bn a (b - a)).map λj=>.int (j:Nat):=by
 unfold dp
 rw[Int.toNat_sub b a,List.range'_eq_map_range,bF]
 apply gQ
 intro k _
 simp
theorem sm4{n:Nat}(h:n≤10000):small (n:Int):=⟨zR n (by decide),sG h (by decide)⟩
noncomputable def lv(rows:List Nat)(b t:Nat):Nat:=b+t*((rows.map λr=>r / t).sum+rows.length)
theorem yD:∀js:List Nat,(js.map λz=>0).sum=0:=by
 intro xs_
 induction xs_ with
 |nil=>
  exact rfl
 |cons j js ih=>
  simpa using ih
theorem Ca(t:Nat):∀(rows js:List Nat),js.Nodup→(∀r∈rows,t≤r→r∈js)→(∀j∈js,t≤j)→(js.map λj=>j / t*rows.count j).sum=(rows.map λr=>r / t).sum:=by
 intro xs_
 induction xs_ with
 |nil=>
  intro js _ _ _
  simp only[List.count_nil,DY,dR,List.sum_nil]
  exact yD js
 |cons r rows IH=>
  intro js hn hm hj
  have ih:=IH js hn (λr hr=>hm r (aq _ hr)) hj
  rw[ar,bG,←ih]
  have:∀js:List Nat,js.Nodup→(js.map λj=>j / t*(r::rows).count j).sum=(if r∈js then r / t else 0)+(js.map λj=>j / t*rows.count j).sum:=by
   intro js
   induction js with
   |nil=>simp
   |cons j js ih2=>
    intro hn
    rw[aP]at hn
    rw[ar,bG,ih2 hn.2,ar,bG,fP]
    by_cases e:r=j
    ·subst e
     simp only[beq_self_eq_true,if_true,am,true_or]
     rw[if_neg hn.1,vT,Ek,bH,bu (r / t*_),bK]
    ·have:(r==j)=false:=by simpa using e
     simp only[this,am,e,false_or,cC,if_false,Nat.add_zero]
     exact Nat.add_left_comm _ _ _
  rw[this js hn]
  by_cases c:t≤r
  ·rw[if_pos (hm r ak c)]
  ·rw[if_neg (λh=>c (hj r h))]
   have:r / t=0:=AZ (cS c)
   rw[this]
theorem AE{Q:Fw→bk→Hp→Prop}{v:V}{hp0 hp:Hp}{rows:List Nat}{t:Nat}(hv:∀h h',same v h h')(ht:0<t)(hz:cl rows≤10000):∀(js:List Nat)(il:Nat)(loc:bk),(∀j∈js,j<cl rows)→loc 29=some (.tup ((cnt rows).map .int))→loc 37=some (.int (t:Nat))→loc 38=some (.int (il:Nat))→
 (∀loc',(∀i,i≠18→i≠38→loc' i=loc i)→loc' 38=some (.int ((il+(js.map λj=>j / t*rows.count j).sum:Nat):Int))→Q .next loc' hp)→eK v hp0 (aG 18) d2 Q (js.map λj=>.int (j:Nat)) loc hp:=by
 intro xs_
 induction xs_ with
 |nil=>
  intro il loc _ h29 h37 h38 q
  exact q loc (λz z z=>rfl) (by simpa using h38)
 |cons j js ih=>
  intro il loc hj h29 h37 h38 q
  refine gv ?_
  have hjc:=hj j ak
  have hi:eN ((cnt rows).map V.int) (j:Int)=some (.int (rows.count j:Nat)):=by
   unfold eN
   rw[if_pos (aN j)]
   simp[cnt,mJ hjc]
  have hlim:((cnt rows).map V.int).length≤lim:=by rw[aj,cnt_len];exact lim4 (cu hz)
  have hsm:j<1073741824:=aE hjc (ac hz (by decide))
  obtain⟨d,hd⟩:∃d,d=j / t:=⟨_,rfl⟩
  have hfd:(j:Int).fdiv (t:Int)=(d:Int):=by
   rw[Int.fdiv_eq_ediv_of_nonneg _ (aN t),hd];rfl
  have hdj:d≤j:=by rw[hd];exact Bv _ _
  have hsmall:small (d:Int):=sm4 (ac hdj (ac (dD hjc) hz))
  have htn:¬t=0:=e9 ht
  simp[d2,↓rd h29,↓rd h37,↓rd h38,hi,hfd,htn,hsm,hsmall]
  refine⟨by simpa using hlim,hv _ _,?_⟩
  refine ih (il+d*rows.count j) _ (λk hk=>hj k (aq _ hk)) (by simp[upd,h29]) (by simp[upd,h37]) rfl λloc' h1 h2=>q loc' (λi n1 n2=>by rw[h1 i n1 n2,upd_ne n2,upd_ne n1]) ?_
  rw[h2]
  simp only[ar,bG,←hd]
  rw[bK]
theorem nodup_range'(a n:Nat):(bn a n).Nodup:=zv
theorem y6(t:Nat)(ht:0<t):∀rows:List Nat,(rows.map λr=>r / t).sum+rows.length≤(rows.map (·+1)).sum:=by
 intro xs_
 induction xs_ with
 |nil=>
  simp
 |cons r rows ih=>
  rw[ar,ar,bG,bG,aD,bu rows.length 1,wR]
  exact bN (aI (Bv r t)) ih
theorem oW{Q:V→Hp→Prop}{X:XA}{hp:Hp}{l rows:List Nat}{b t:Nat}(ht:0<t)(hz:nOf rows b≤10000)(q:Q (.int (lv rows b t:Nat)) hp):aY [wObj l rows b,.int (t:Nat)] Q X hp:=by
 refine⟨[(0,wObj l rows b),(37,.int (t:Nat))],rfl,?_⟩
 have hcl:=mQ rows
 have hcl':cl rows≤10000:=ac hcl (ac (aM _ b) hz)
 have hlim:((cnt rows).map V.int).length≤lim:=by rw[aj,cnt_len];exact lim4 (cu hcl')
 have a34:∀(Q:V→Hp→Prop) hp,b4 cW 34 (wObj l rows b) Q hp=Q (.tup [.tup ((cnt rows).map .int),.int b]) hp:=λQ hp=>nK rfl rfl
 have a32:∀(Q:V→Hp→Prop) hp,b4 cW 32 (wObj l rows b) Q hp=Q (.int rows.length) hp:=λQ hp=>nK rfl rfl
 have hit:eh hp (.rng (t:Nat) (((cnt rows).map V.int).length:Nat))=some ((bn t (cl rows - t)).map λj=>.int (j:Nat)):=by
  rw[fK (zR t (by decide)) (by rw[aj,cnt_len];exact sG hcl' (by decide))]
  rw[show((cnt rows).map V.int).length=cl rows by simp[cnt_len],lu]
 simp[gy,↓a34,↓a32]
 refine⟨by simpa using hlim,?_⟩
 simp only[aj]at hit
 refine⟨_,hit,?_⟩
 refine AE (rows:=rows) (t:=t) (by simp) ht hcl' _ 0 _ ?_ rfl rfl (by simp) λloc' h1 h2=>?_
 ·intro j hj
  exact rin (bc.mp hj)
 ·have hs:=Ca t rows (bn t (cl rows - t)) (nodup_range' _ _) (λr hr hle=>bc.mpr (rin2 hle (cl_le rows r hr))) (λj hj=>by rw[bc]at hj;exact hj.1)
  rw[hs]at h2
  have e36:loc' 36=some (.int b):=by rw[h1 36 (by decide) (by decide)];simp[upd]
  have e37:loc' 37=some (.int (t:Nat)):=by rw[h1 37 (by decide) (by decide)];simp[upd,locOf_cons]
  have e0:loc' 0=some (wObj l rows b):=by rw[h1 0 (by decide) (by decide)];simp[upd,locOf_cons]
  have hb:=y6 t ht rows
  unfold lv at q
  obtain⟨d,hd⟩:∃d,d=(rows.map λr=>r / t).sum:=⟨_,rfl⟩
  rw[←hd]at h2 hb q
  have hsmall:small ((d+rows.length:Nat):Int):=sm4 (ac hb (ac (aM _ b) hz))
  simp[rd e36,rd e37,rd h2,rd e0,a32]
  refine⟨.inr (by simpa using hsmall),?_⟩
  simpa using q
noncomputable def longN(rows:List Nat)(b:Nat):Nat:=max (cl rows - 1) b
theorem yj{Q:V→Hp→Prop}{X:XA}{hp:Hp}{l rows:List Nat}{b:Nat}(hz:nOf rows b≤10000)(q:Q (.int (longN rows b:Nat)) hp):aR [wObj l rows b] Q X hp:=by
 refine⟨[(0,wObj l rows b)],rfl,?_⟩
 have hcl:=mQ rows
 have hlim:cl rows≤lim:=lim4 (cu (ac hcl (ac (aM _ b) hz)))
 have a34:∀(Q:V→Hp→Prop) hp,b4 cW 34 (wObj l rows b) Q hp=Q (.tup [.tup ((cnt rows).map .int),.int b]) hp:=λQ hp=>nK rfl rfl
 simp[eC,↓a34,cnt_len,hlim]
 have:((longN rows b:Nat):Int)=max ((cl rows:Int) - 1) b:=yV _ _
 rwa[this]at q
noncomputable def topN(r1:List Nat)(b1:Nat)(r2:List Nat)(b2:Nat):Nat:=max (longN r1 b1) (longN r2 b2)+1
noncomputable def lessP(r1:List Nat)(b1:Nat)(r2:List Nat)(b2:Nat):Bool:=
 if nOf r2 b2≤nOf r1 b1 then false else if cl r1≤1∧cl r2≤1 then decide (r1.length≤r2.length)
 else(bn 2 (topN r1 b1 r2 b2 - 1)).all λt=>decide (lv r1 b1 t<lv r2 b2 t)
theorem EM{l rows:List Nat}{b j:Nat}{hp:Hp}(hj:j=42∨j=40∨j=87):cY cW j hp (wObj l rows b):=by
 refine⟨rfl,?_⟩
 rcases hj with rfl|rfl|rfl<;>simp[wFs]
theorem less_body{R:Fw→bk→Hp→Prop}{X:XS}{hp:Hp}{l1 r1 l2 r2:List Nat}{b1 b2 j:Nat}{loc:bk}(h1:nOf r1 b1≤10000)(h2:nOf r2 b2≤10000)(hj:0<j)(e0:loc 0=some (wObj l1 r1 b1))(e39:loc 39=some (wObj l2 r2 b2))(e41:loc 41=some (.int (j:Nat)))
 (q:R (if lv r1 b1 j<lv r2 b2 j then .next else .ret (.bool false)) loc hp):dX R X loc hp:=by
 simp[dX,↓rd e0,↓rd e39,↓rd e41,EM, -dw]
 refine oW hj h1 (oW hj h2 ?_)
 repeat refine xb ?_
 by_cases c:lv r1 b1 j<lv r2 b2 j
 ·rw[if_pos c]at q
  rw[if_neg (by simp;first|exact c|exact dm.mpr c)];exact q
 ·rw[if_neg c]at q
  rw[if_pos (by simp;first|exact bZ c|exact bC.mpr (bZ c))];exact q
theorem wl{Q:Fw→bk→Hp→Prop}{v:V}{hp0 hp:Hp}{l1 r1 l2 r2:List Nat}{b1 b2:Nat}(hv:∀h h',same v h h')(h1:nOf r1 b1≤10000)(h2:nOf r2 b2≤10000):∀(js:List Nat)(loc:bk),(∀j∈js,0<j)→loc 0=some (wObj l1 r1 b1)→loc 39=some (wObj l2 r2 b2)→
 ((js.all λt=>decide (lv r1 b1 t<lv r2 b2 t))=true→∀loc',Q .next loc' hp)→((js.all λt=>decide (lv r1 b1 t<lv r2 b2 t))=false→∀loc',Q (.ret (.bool false)) loc' hp)→eK v hp0 (aG 41) dX Q (js.map λj=>.int (j:Nat)) loc hp:=by
 intro xs_
 induction xs_ with
 |nil=>
  intro loc _ e0 e39 q q2
  exact q rfl loc
 |cons j js ih=>
  intro loc hj e0 e39 q q2
  refine gv ?_
  refine less_body (l1:=l1) (l2:=l2) (j:=j) h1 h2 (hj j ak) (by simp[upd,e0]) (by simp[upd,e39]) (by simp) ?_
  by_cases c:lv r1 b1 j<lv r2 b2 j
  ·rw[if_pos c]
   refine⟨hv _ _,ih _ (λk hk=>hj k (aq _ hk)) (by simp[upd,e0]) (by simp[upd,e39]) (λh=>q ?_) (λh=>q2 ?_)⟩
   ·rw[sB,h];simpa using c
   ·rw[sB,h];simp
  ·rw[if_neg c]
   refine q2 ?_ _
   rw[sB];simp[c]
theorem ti{rows:List Nat}{b:Nat}(h:nOf rows b≤10000):longN rows b≤10000:=
 ig.mpr ⟨ac (ie _ _) (ac (ac (mQ rows) (aM _ b)) h),ac (cP b _) h⟩
theorem cl_top{Q:Fw→bk→Hp→Prop}{X:XS}{hp:Hp}{loc:bk}{l1 r1 l2 r2:List Nat}{b1 b2:Nat}(h1:nOf r1 b1≤10000)(h2:nOf r2 b2≤10000)(e0:loc 0=some (wObj l1 r1 b1))(e39:loc 39=some (wObj l2 r2 b2))
 (q:Q .next (upd loc 31 (.int (topN r1 b1 r2 b2:Nat))) hp):
 bB (aZ ef (aT qB (av (bX (cY cW 40) aR (ai 0) aF) (av (bX (cY cW 40) aR (ai 39) aF) aF))) (aQ (.int 1))) (aG 31) Q X loc hp:=by
 simp only[eY,d1,dS,cD,iH,be,rd e0,rd e39,dz]
 refine⟨EM (.inr (.inl rfl)),yj h1 ⟨EM (.inr (.inl rfl)),yj h2 ?_⟩⟩
 rw[AN,ek,nF,iB,At]
 exact q
theorem cl_loop{Q:Fw→bk→Hp→Prop}{X:XS}{hp:Hp}{loc:bk}{l1 r1 l2 r2:List Nat}{b1 b2 n:Nat}(h1:nOf r1 b1≤10000)(h2:nOf r2 b2≤10000)(hn:n≤10000)(e0:loc 0=some (wObj l1 r1 b1))(e39:loc 39=some (wObj l2 r2 b2))(e31:loc 31=some (.int ((n+1:Nat):Int)))
 (qt:((bn 2 n).all λt=>decide (lv r1 b1 t<lv r2 b2 t))=true→∀loc',Q .next loc' hp)(qf:((bn 2 n).all λt=>decide (lv r1 b1 t<lv r2 b2 t))=false→∀loc',Q (.ret (.bool false)) loc' hp):
 i8 (aT iI (av (aQ (.int 2)) (av (aZ ef (ai 31) (aQ (.int 1))) aF))) (aG 41) dX Q X loc hp:=by
 rw[rA,dS,cD,ek,cD,d1,be,rd e31,ek,nF,dz,lL]
 rw[show((n+1:Nat):Int)+1=((n+2:Nat):Int)from rfl]
 refine⟨_,fK (by decide) (sG (bI hn 2) (by decide)),?_⟩
 rw[show(2:Int)=((2:Nat):Int)from rfl,lu]
 exact wl (by simp) h1 h2 _ _ (λj hj=>aE Nat.two_pos (bc.mp hj).1) e0 e39 qt qf
theorem cl_simple{a b:DS}{Q:Fw→bk→Hp→Prop}{X:XS}{hp:Hp}{loc:bk}{l1 r1 l2 r2:List Nat}{b1 b2:Nat}(e0:loc 0=some (wObj l1 r1 b1))(e39:loc 39=some (wObj l2 r2 b2)):
 kg (i7 (me (cX (b4 cW 35) (ai 0))) (i7 (me (cX (b4 cW 35) (ai 39))) (λQ z z hp=>Q true hp))) a b Q X loc hp=if cl r1≤1∧cl r2≤1 then a Q X loc hp else b Q X loc hp:=by
 have a35:∀l rows b (Q:V→Hp→Prop) hp,b4 cW 35 (wObj l rows b) Q hp=Q (.bool (decide (cl rows≤1))) hp:=λl rows b Q hp=>nK rfl rfl
 simp only[pg,ud,x8,lH,be,rd e0,rd e39,a35,rF]
 by_cases c1:cl r1≤1<;>by_cases c2:cl r2≤1<;>simp[c1,c2]
theorem Cz{Q:V→Hp→Prop}{X:XA}{hp:Hp}{l1 r1 l2 r2:List Nat}{b1 b2:Nat}(h1:nOf r1 b1≤10000)(h2:nOf r2 b2≤10000)(q:Q (.bool (lessP r1 b1 r2 b2)) hp):fQ [wObj l1 r1 b1,wObj l2 r2 b2] Q X hp:=by
 refine⟨[(0,wObj l1 r1 b1),(39,wObj l2 r2 b2)],rfl,?_⟩
 have a31:∀l rows b (Q:V→Hp→Prop) hp,b4 cW 31 (wObj l rows b) Q hp=Q (.int (nOf rows b:Nat)) hp:=λl rows b Q hp=>nK rfl rfl
 have a32:∀l rows b (Q:V→Hp→Prop) hp,b4 cW 32 (wObj l rows b) Q hp=Q (.int rows.length) hp:=λl rows b Q hp=>nK rfl rfl
 have o0:locOf [(0,wObj l1 r1 b1),(39,wObj l2 r2 b2)] 0=some (wObj l1 r1 b1):=rfl
 have o39:locOf [(0,wObj l1 r1 b1),(39,wObj l2 r2 b2)] 39=some (wObj l2 r2 b2):=rfl
 generalize locOf [(0,wObj l1 r1 b1),(39,wObj l2 r2 b2)]=lo at*
 unfold lessP at q
 unfold jO
 refine sq ?_
 simp only[pg,jU,lH,be,rd o0,rd o39,a31,pw,jb,decide_eq_true_eq,bC]
 split
 ·rename_i c;rw[if_pos c]at q;exact q
 ·rename_i c
  rw[if_neg c]at q
  show nxt _ _ _ .next _ _
  refine nsq ?_
  rw[cl_simple o0 o39]
  split
  ·rename_i c2
   rw[if_pos c2]at q
   refine sq ?_
   rw[rq,d1,lH,be,rd o0,a32,lH,be,rd o39,a32,pw]
   simp only[bC]
   exact q
  ·rename_i cc
   rw[if_neg cc]at q
   show nxt _ _ _ .next _ _
   refine nsq (cl_top h1 h2 o0 o39 (nsq (cl_loop h1 h2 (n:=max (longN r1 b1) (longN r2 b2)) (ig.mpr ⟨ti h1,ti h2⟩) ((upd_ne (by decide)).trans o0) ((upd_ne (by decide)).trans o39) us (λh loc'=>nsq ?_) λh loc'=>?_)))
   ·rw[show topN r1 b1 r2 b2 - 1=max (longN r1 b1) (longN r2 b2)from rfl,h]at q;exact q
   ·rw[show topN r1 b1 r2 b2 - 1=max (longN r1 b1) (longN r2 b2)from rfl,h]at q;exact q
structure SS where
 nodes:List Int
 np:Int→Int
 succ:Int→List Int
 ready:Option (List Int)
 pass:Int
 fin:Int
noncomputable def setF{α:Type}(f:Int→α)(n:Int)(v:α):Int→α:=λm=>if m=n then v else f m
noncomputable def A4(R:Addr):Option (List Int)→V
 |none=>.none
 |some _=>.ref R
noncomputable def vI(n k:Int)(l:Addr):O:=.sl cN [some (.int n),some (.int k),some (.ref l)]
structure Rep(Z hp:Hp)(x dd D:Addr)(ia la:Int→Addr)(R:Addr)(S:SS):Prop where
 hx:hp x=some (.inst cT dd)
 hd:hp dd=some (.ns [(2,.ref D),(5,A4 R S.ready),(11,.int S.pass),(12,.int S.fin)])
 hD:∃ep,hp D=some (.dict (S.nodes.map λn=>(n,V.ref (ia n))) ep)
 hi:∀n∈S.nodes,hp (ia n)=some (vI n (S.np n) (la n))
 hl:∀n∈S.nodes,hp (la n)=some (.lst ((S.succ n).map .int))
 hr:∀r,S.ready=some r→hp R=some (.lst (r.map .int))
 ii:∀n∈S.nodes,∀m∈S.nodes,ia n=ia m→n=m
 ll:∀n∈S.nodes,∀m∈S.nodes,la n=la m→n=m
 lR:S.ready≠none→∀n∈S.nodes,la n≠R
 nd:S.nodes.Nodup
 df:∀m,m∉S.nodes→S.np m=0∧S.succ m=[]
 gr:Grow Z hp
 ox:Z x=ae
 od:Z dd=ae
 oD:Z D=ae
 oi:∀n∈S.nodes,Z (ia n)=ae∧Z (la n)=ae
 oR:S.ready≠none→Z R=ae
 sz:S.nodes.length≤1000
noncomputable def nr(Z hp:Hp)(x:Addr)(S:SS):Prop:=∃dd D ia la R,Rep Z hp x dd D ia la R S
theorem Rep.grow{Z hp hp':Hp}{x dd D R:Addr}{ia la:Int→Addr}{S:SS}(r:Rep Z hp x dd D ia la R S)(g:Grow hp hp'):Rep Z hp' x dd D ia la R S:=
 {r with hx:=g _ _ r.hx,hd:=g _ _ r.hd,hD:=(by obtain⟨ep,h⟩:=r.hD;exact⟨ep,g _ _ h⟩),hi:=λn h=>g _ _ (r.hi n h),hl:=λn h=>g _ _ (r.hl n h),hr:=λq h=>g _ _ (r.hr q h),gr:=r.gr.trans g}
theorem nr.grow{Z hp hp':Hp}{x:Addr}{S:SS}(r:nr Z hp x S)(g:Grow hp hp'):nr Z hp' x S:=(by obtain⟨dd,D,ia,la,R,r⟩:=r;exact⟨dd,D,ia,la,R,r.grow g⟩)
theorem ne_of{hp:Hp}{a b:Addr}{o o':O}(h:hp a=some o)(h':hp b=some o')(n:o≠o'):a≠b:=by
 rintro rfl;rw[h]at h';cases h';exact n rfl
theorem ne_none{hp:Hp}{a b:Addr}{o:O}(h:hp a=some o)(h':hp b=ae):a≠b:=by
 rintro rfl;rw[h]at h';cases h'
theorem upd_ne'{hp:Hp}{a b:Addr}{o:O}(h:b≠a):upd hp a o b=hp b:=upd_ne h
theorem nr.other{Z hp:Hp}{x:Addr}{S:SS}(r:nr Z hp x S){g:Addr}{o:O}(h:hp g=ae∨∃o',Z g=some o'):nr (upd Z g o) (upd hp g o) x S:=by
 obtain⟨dd,D,ia,la,R,r⟩:=r
 have key:∀a o',hp a=some o'→Z a=ae→a≠g:=by
  intro a o' h1 h2
  rintro rfl
  rcases h with h|⟨o'',h⟩
  ·rw[h]at h1;cases h1
  ·rw[h]at h2;cases h2
 have U:∀a o',hp a=some o'→Z a=ae→upd hp g o a=some o':=λa o' h1 h2=>by rw[upd_ne (key a o' h1 h2)];exact h1
 have W:∀a o',hp a=some o'→Z a=ae→upd Z g o a=ae:=λa o' h1 h2=>by rw[upd_ne (key a o' h1 h2)];exact h2
 obtain⟨ep,hD⟩:=r.hD
 refine⟨dd,D,ia,la,R,{r with
  hx:=U _ _ r.hx r.ox,hd:=U _ _ r.hd r.od,hD:=⟨ep,U _ _ hD r.oD⟩,hi:=λn h=>U _ _ (r.hi n h) (r.oi n h).1,hl:=λn h=>U _ _ (r.hl n h) (r.oi n h).2
  hr:=λq h=>U _ _ (r.hr q h) (r.oR (by rw[h];simp)),gr:=?_,ox:=W _ _ r.hx r.ox,od:=W _ _ r.hd r.od,oD:=W _ _ hD r.oD,oi:=λn h=>⟨W _ _ (r.hi n h) (r.oi n h).1,W _ _ (r.hl n h) (r.oi n h).2⟩
  oR:=λh=>?_}⟩
 ·intro a o' e
  by_cases c:a=g
  ·subst c;rw[upd_same]at e⊢;exact e
  ·rw[upd_ne c]at e⊢;exact r.gr _ _ e
 ·cases q:S.ready with
  |none=>exact absurd q h
  |some z=>exact W _ _ (r.hr z q) (r.oR h)
section
variable{Z hp:Hp}{x dd D R:Addr}{ia la:Int→Addr}{S:SS}
theorem Rep.setNp(r:Rep Z hp x dd D ia la R S){n k:Int}(hn:n∈S.nodes):Rep Z (upd hp (ia n) (vI n k (la n))) x dd D ia la R {S with np:=setF S.np n k}:=by
 obtain⟨ep,hD⟩:=r.hD
 have e:=r.hi n hn
 refine{r with hx:=?_,hd:=?_,hD:=⟨ep,?_⟩,hi:=λm hm=>?_,hl:=λm hm=>?_,hr:=λq h=>?_,df:=λm hm=>?_,gr:=r.gr.upd (r.oi n hn).1}
 ·rw[upd_ne (ne_of r.hx e (by simp[vI]))];exact r.hx
 ·rw[upd_ne (ne_of r.hd e (by simp[vI]))];exact r.hd
 ·rw[upd_ne (ne_of hD e (by simp[vI]))];exact hD
 ·by_cases c:m=n
  ·subst c;simp[setF]
  ·rw[upd_ne (λz=>c (r.ii m hm n hn z))];simp only[setF,if_neg c];exact r.hi m hm
 ·rw[upd_ne (ne_of (r.hl m hm) e (by simp[vI]))];exact r.hl m hm
 ·rw[upd_ne (ne_of (r.hr q h) e (by simp[vI]))];exact r.hr q h
 ·have:m≠n:=by rintro rfl;exact hm hn
  simp only[setF,if_neg this];exact r.df m hm
theorem Rep.setSucc(r:Rep Z hp x dd D ia la R S){n:Int}{l:List Int}(hn:n∈S.nodes):Rep Z (upd hp (la n) (.lst (l.map .int))) x dd D ia la R {S with succ:=setF S.succ n l}:=by
 obtain⟨ep,hD⟩:=r.hD
 have e:=r.hl n hn
 refine{r with hx:=?_,hd:=?_,hD:=⟨ep,?_⟩,hi:=λm hm=>?_,hl:=λm hm=>?_,hr:=λq h=>?_,df:=λm hm=>?_,gr:=r.gr.upd (r.oi n hn).2}
 ·rw[upd_ne (ne_of r.hx e (by simp))];exact r.hx
 ·rw[upd_ne (ne_of r.hd e (by simp))];exact r.hd
 ·rw[upd_ne (ne_of hD e (by simp))];exact hD
 ·rw[upd_ne (ne_of (r.hi m hm) e (by simp[vI]))];exact r.hi m hm
 ·by_cases c:m=n
  ·subst c;simp[setF]
  ·rw[upd_ne (λz=>c (r.ll m hm n hn z))];simp only[setF,if_neg c];exact r.hl m hm
 ·rw[upd_ne (λz=>r.lR (by rw[h];simp) n hn z.symm)];exact r.hr q h
 ·have:m≠n:=by rintro rfl;exact hm hn
  simp only[setF,if_neg this];exact r.df m hm
theorem Rep.setReady(r:Rep Z hp x dd D ia la R S){q₀ q:List Int}(h:S.ready=some q₀):Rep Z (upd hp R (.lst (q.map .int))) x dd D ia la R {S with ready:=some q}:=by
 obtain⟨ep,hD⟩:=r.hD
 have e:=r.hr _ h
 have hne:S.ready≠none:=by rw[h];simp
 refine{r with hx:=?_,hd:=?_,hD:=⟨ep,?_⟩,hi:=λm hm=>?_,hl:=λm hm=>?_,hr:=λq h=>?_,lR:=λz=>r.lR hne,gr:=r.gr.upd (r.oR hne),oR:=λz=>r.oR hne}
 ·rw[upd_ne (ne_of r.hx e (by simp))];exact r.hx
 ·rw[upd_ne (ne_of r.hd e (by simp))];have:=r.hd;rw[h]at this;exact this
 ·rw[upd_ne (ne_of hD e (by simp))];exact hD
 ·rw[upd_ne (ne_of (r.hi m hm) e (by simp[vI]))];exact r.hi m hm
 ·rw[upd_ne (r.lR hne m hm)];exact r.hl m hm
 ·cases h;simp
theorem Rep.setD(r:Rep Z hp x dd D ia la R S){p f:Int}:Rep Z (upd hp dd (.ns [(2,.ref D),(5,A4 R S.ready),(11,.int p),(12,.int f)])) x dd D ia la R {S with pass:=p,fin:=f}:=by
 obtain⟨ep,hD⟩:=r.hD
 have e:=r.hd
 refine{r with hx:=?_,hd:=?_,hD:=⟨ep,?_⟩,hi:=λm hm=>?_,hl:=λm hm=>?_,hr:=λq h=>?_,gr:=r.gr.upd r.od}
 ·rw[upd_ne (ne_of r.hx e (by simp))];exact r.hx
 ·simp
 ·rw[upd_ne (ne_of hD e (by simp))];exact hD
 ·rw[upd_ne (ne_of (r.hi m hm) e (by simp[vI]))];exact r.hi m hm
 ·rw[upd_ne (ne_of (r.hl m hm) e (by simp))];exact r.hl m hm
 ·rw[upd_ne (ne_of (r.hr q h) e (by simp))];exact r.hr q h
end
theorem uL{Q:V→Hp→Prop}{X:XA}{hp:Hp}{n:Int}(q:∀i l hp',hp i=ae→hp l=ae→i≠l→hp' i=some (vI n 0 l)→hp' l=some (.lst [])→(∀a,a≠i→a≠l→hp' a=hp a)→Q (.ref i) hp'):uh cN gP [.int n] Q X hp:=by
 intro i hi
 refine⟨[(0,.ref i),(1,.int n)],rfl,?_⟩
 have e0:(upd hp i (.sl cN [])) i=some (.sl cN []):=upd_same ..
 have uu:∀o o',upd (upd hp i o) i o'=upd hp i o':=λo o'=>by funext j;simp only[upd];split<;>rfl
 have sS:∀(vs:List (Option V))(k:Nat)(v:V)(K:Hp→Prop),k8 cN k (.ref i) v K (upd hp i (.sl cN vs))=K (upd hp i (.sl cN (lY vs k v))):=λvs k v K=>by rw[setS_ref (upd_same ..),uu]
 simp[kM,↓sS,lY]
 intro l hl
 have hli:l≠i:=by rintro rfl;simp at hl
 rw[upd_ne hli]at hl
 have e2:(upd (upd hp i (.sl cN [some (.int n),some (.int 0)])) l (.lst [])) i=some (.sl cN [some (.int n),some (.int 0)]):=by rw[upd_ne (aS hli)];simp
 rw[setS_ref e2]
 refine q i l _ hi hl (aS hli) (by simp[lY,vI]) (by rw[upd_ne hli];simp) λa n1 n2=>?_
 rw[upd_ne n1,upd_ne n2,upd_ne n1]
section
variable{Z hp:Hp}{x dd D R:Addr}{ia la:Int→Addr}{S:SS}
noncomputable def fJ(S:SS)(n:Int):SS:={S with nodes:=if n∈S.nodes then S.nodes else S.nodes++[n]}
theorem Rep.at(r:Rep Z hp x dd D ia la R S){i:Nat}{v:V}{Q:V→Hp→Prop}(h:j9 i [(2,V.ref D),(5,A4 R S.ready),(11,.int S.pass),(12,.int S.fin)]=some v)(n:k6 v=true):b4 cT i (.ref x) Q hp=Q v hp:=at_ref r.hx r.hd h n
theorem find_nodes(ia:Int→Addr)(n:Int):∀nodes:List Int,sw (nodes.map λm=>(m,V.ref (ia m))) n=if n∈nodes then some (.ref (ia n))else ae:=by
 intro xs_
 induction xs_ with
 |nil=>
  simp[sw]
 |cons m ms IH=>
  have ih:=IH
  unfold sw at ih⊢
  rw[ar,cF]
  by_cases c:m=n
  ·subst c;simp
  ·have:¬n=m:=λz=>c z.symm
   simp only[c,decide_false,am,this,false_or]
   exact ih
theorem Rep.add(r:Rep Z hp x dd D ia la R S){n:Int}(hn:n∉S.nodes)(hz:S.nodes.length+1≤1000){i l:Addr}{hp':Hp}{ep:Nat}(hi:hp i=ae)(hl:hp l=ae)(hil:i≠l)(ei:hp' i=some (vI n 0 l))(el:hp' l=some (.lst []))(eD:hp' D=some (.dict (S.nodes.map (λm=>(m,V.ref (ia m)))++[(n,V.ref i)]) ep))(eo:∀a,a≠i→a≠l→a≠D→hp' a=hp a):
 Rep Z hp' x dd D (setF ia n i) (setF la n l) R (fJ S n):=by
 have hns:(fJ S n).nodes=S.nodes++[n]:=by simp[fJ,hn]
 obtain⟨ep0,hD⟩:=r.hD
 have ne:∀m∈S.nodes,m≠n:=λm hm=>by rintro rfl;exact hn hm
 have keep:∀a o,hp a=some o→a≠D→hp' a=some o:=λa o h h2=>by rw[eo a (ne_none h hi) (ne_none h hl) h2];exact h
 have iam:∀m∈S.nodes,setF ia n i m=ia m:=λm hm=>by simp[setF,ne m hm]
 have lam:∀m∈S.nodes,setF la n l m=la m:=λm hm=>by simp[setF,ne m hm]
 have ian:setF ia n i n=i:=by simp[setF]
 have lan:setF la n l n=l:=by simp[setF]
 have df:=r.df n hn
 have np:(fJ S n).np=S.np:=rfl
 have su:(fJ S n).succ=S.succ:=rfl
 have re:(fJ S n).ready=S.ready:=rfl
 refine⟨keep _ _ r.hx (ne_of r.hx hD (by simp)),keep _ _ r.hd (ne_of r.hd hD (by simp)),⟨ep,?_⟩,λm hm=>?_,λm hm=>?_,λq h=>?_,λm hm k hk=>?_,λm hm k hk=>?_,λh m hm=>?_,?_,λm hm=>?_,?_,r.ox,r.od,r.oD,λm hm=>?_,r.oR,?_⟩
 ·rw[eD,hns,dG]
  congr 3
  ·apply gQ;intro m hm;rw[iam m hm]
  ·simp[ian]
 ·rw[hns]at hm
  rcases aL.mp hm with h|h
  ·rw[iam m h,lam m h];exact keep _ _ (r.hi m h) (ne_of (r.hi m h) hD (by simp[vI]))
  ·simp at h;subst h;rw[ian,lan,np,df.1];exact ei
 ·rw[hns]at hm
  rcases aL.mp hm with h|h
  ·rw[lam m h];exact keep _ _ (r.hl m h) (ne_of (r.hl m h) hD (by simp))
  ·simp at h;subst h;rw[lan,su,df.2];exact el
 ·exact keep _ _ (r.hr q h) (ne_of (r.hr q h) hD (by simp))
 ·rw[hns]at hm hk
  intro e
  rcases aL.mp hm with h|h<;>rcases aL.mp hk with h'|h'
  ·rw[iam m h,iam k h']at e;exact r.ii m h k h' e
  ·simp at h';subst h';rw[iam m h,ian]at e;exact absurd e (ne_none (r.hi m h) hi)
  ·simp at h;subst h;rw[iam k h',ian]at e;exact absurd e.symm (ne_none (r.hi k h') hi)
  ·simp at h h';rw[h,h']
 ·rw[hns]at hm hk
  intro e
  rcases aL.mp hm with h|h<;>rcases aL.mp hk with h'|h'
  ·rw[lam m h,lam k h']at e;exact r.ll m h k h' e
  ·simp at h';subst h';rw[lam m h,lan]at e;exact absurd e (ne_none (r.hl m h) hl)
  ·simp at h;subst h;rw[lam k h',lan]at e;exact absurd e.symm (ne_none (r.hl k h') hl)
  ·simp at h h';rw[h,h']
 ·rw[hns]at hm
  rcases aL.mp hm with h'|h'
  ·rw[lam m h'];exact r.lR h m h'
  ·simp at h';subst h';rw[lan]
   cases q:S.ready with
   |none=>exact absurd q h
   |some z=>exact λe=>ne_none (r.hr z q) hl e.symm
 ·rw[hns]
  rw[bg]
  exact⟨r.nd,by simp,λa ha b hb=>by simp at hb;subst hb;exact ne a ha⟩
 ·rw[hns]at hm
  exact r.df m λh=>hm (cz _ h)
 ·intro a o e
  have h:=r.gr _ _ e
  refine keep _ _ h ?_
  rintro rfl
  rw[r.oD]at e;cases e
 ·rw[hns]at hm
  rcases aL.mp hm with h|h
  ·rw[iam m h,lam m h];exact r.oi m h
  ·simp at h;subst h;rw[ian,lan];exact⟨r.gr.back hi,r.gr.back hl⟩
 ·rw[hns];simpa using hz
theorem eSet_new(ia:Int→Addr)(n:Int)(i:Addr)(nodes:List Int)(h:n∉nodes):sM (nodes.map λm=>(m,V.ref (ia m))) n (.ref i)=(nodes.map λm=>(m,V.ref (ia m)))++[(n,.ref i)]:=by
 unfold sM
 rw[if_neg]
 simp only[List.any_map,kL,not_exists,not_and,GY,decide_eq_true_eq]
 intro m hm e;subst e;exact h hm
theorem qS{Q:V→Hp→Prop}{X:XA}(r:Rep Z hp x dd D ia la R S){n:Int}(hz:S.nodes.length+1≤1000)(q:∀hp' ia' la',Rep Z hp' x dd D ia' la' R (fJ S n)→Q (.ref (ia' n)) hp'):ew [.ref x,.int n] Q X hp:=by
 refine⟨[(0,.ref x),(1,.int n)],rfl,?_⟩
 obtain⟨ep,hD⟩:=r.hD
 have a2:∀(Q:V→Hp→Prop),b4 cT 2 (.ref x) Q hp=Q (.ref D) hp:=λQ=>r.at rfl rfl
 have hz':S.nodes.length≤lim:=lim2 _ (cw hz)
 have dg:∀(Q:V→Hp→Prop)(X:XA),xp [.ref D,.int n] Q X hp=Q ((sw (S.nodes.map λn=>(n,V.ref (ia n))) n).getD .none) hp:=by
  intro Q X
  apply propext;constructor
  ·rintro⟨a,es,ep',k,h1,h2,h3⟩
   simp only[iR,V.ref.injEq,V.int.injEq,and_true]at h1
   obtain⟨rfl,rfl⟩:=h1
   rw[hD]at h2;cases h2;exact h3
  ·intro h;exact⟨_,_,_,_,rfl,hD,h⟩
 have isd:qz hp (.ref D):=⟨D,_,ep,rfl,hD⟩
 simp only[jA,ue,Cs,iH,lH,be,rd_loc,if_true,a2,cD,dz,if_neg (show¬(1:Nat)=0 by decide),dg,find_nodes]
 refine⟨isd,?_⟩
 by_cases c:n∈S.nodes
 ·simp only[if_pos c,Option.getD_some,DH]
  simp
  refine q hp ia la ?_
  have:fJ S n=S:=by simp[fJ,c]
  rw[this];exact r
 ·simp only[if_neg c,Option.getD_none,on_nn]
  simp
  refine uL λi l hp' h1 h2 h3 h4 h5 h6=>?_
  have hx':hp' x=some (.inst cT dd):=by rw[h6 x (ne_none r.hx h1) (ne_none r.hx h2)];exact r.hx
  have hd':hp' dd=some (.ns [(2,.ref D),(5,A4 R S.ready),(11,.int S.pass),(12,.int S.fin)]):=by rw[h6 dd (ne_none r.hd h1) (ne_none r.hd h2)];exact r.hd
  have hD':hp' D=some (.dict (S.nodes.map λn=>(n,V.ref (ia n))) ep):=by rw[h6 D (ne_none hD h1) (ne_none hD h2)];exact hD
  rw[at_ref hx' hd' (v:=.ref D) rfl rfl]
  refine⟨D,n,rfl,rfl,?_⟩
  rw[hD']
  refine⟨by simpa using hz',λep'=>?_⟩
  rw[eSet_new _ _ _ _ c]
  have hDi:D≠i:=ne_none hD h1
  have hDl:D≠l:=ne_none hD h2
  have:=q _ _ _ (Rep.add (hp':=upd hp' D (.dict (S.nodes.map (λm=>(m,V.ref (ia m)))++[(n,V.ref i)]) ep')) (ep:=ep') r c hz h1 h2 h3 (by rw[upd_ne (aS hDi)];exact h4) (by rw[upd_ne (aS hDl)];exact h5) (by simp) λa n1 n2 n3=>by rw[upd_ne n3];exact h6 a n1 n2)
  simpa[setF]using this
end
noncomputable def addP(n:Int)(S:SS)(p:Int):SS:={fJ S p with succ:=setF S.succ p (S.succ p++[n])}
noncomputable def addS(S:SS)(n:Int)(ps:List Int):SS:=ps.foldl (addP n) {fJ S n with np:=setF S.np n (S.np n+ps.length)}
theorem pD(S:SS)(n:Int):n∈(fJ S n).nodes:=by
 unfold fJ;simp only[];split
 ·assumption
 ·simp
theorem to(S:SS)(n:Int):(fJ S n).nodes.length≤S.nodes.length+1:=by
 unfold fJ;simp only[];split<;>simp
section
variable{Z hp:Hp}{x dd D R:Addr}{ia la:Int→Addr}{S:SS}
theorem Rep.inst(r:Rep Z hp x dd D ia la R S){j:Nat}(hj:j≠2∧j≠5∧j≠11∧j≠12):cY cT j hp (.ref x):=by
 refine⟨dd,_,r.hx,r.hd,?_⟩
 simp[aS hj.1,aS hj.2.1,aS hj.2.2.1,aS hj.2.2.2]
theorem Rep.slot(r:Rep Z hp x dd D ia la R S){n:Int}(hn:n∈S.nodes){k:Nat}{v:V}{Q:V→Hp→Prop}(h:([some (.int n),some (.int (S.np n)),some (.ref (la n))]:List (Option V))[k]?=some (some v))(nf:k6 v=true):iy cN k (.ref (ia n)) Q hp=Q v hp:=sl_ref (r.hi n hn) h nf
theorem zt{R':Fw→bk→Hp→Prop}{X:XS}{loc:bk}{n p:Int}(r:Rep Z hp x dd D ia la R S)(hz:S.nodes.length+1≤1000)(hs:(S.succ p).length≤100000)(e0:loc 0=some (.ref x))(e1:loc 1=some (.int n))(e8:loc 8=some (.int p))
 (q:∀loc' hp' ia' la',Rep Z hp' x dd D ia' la' R (addP n S p)→loc' 0=some (.ref x)→loc' 1=some (.int n)→R' .next loc' hp'):kz R' X loc hp:=by
 simp[kz,↓rd e0,↓rd e1,↓rd e8,r.inst, -dw]
 refine qS r hz λhp' ia' la' r'=>?_
 have hm:=pD S p
 rw[r'.slot hm (k:=2) (v:=.ref (la' p)) rfl rfl]
 refine⟨isLst_ref (r'.hl p hm),gM (r'.hl p hm) ?_ ?_⟩
 ·simp only[aj]
  have:(fJ S p).succ=S.succ:=rfl
  rw[this];exact BM (ac hs (by decide))
 ·have e:(gp V.int ((fJ S p).succ p)++[V.int n])=gp V.int (S.succ p++[n]):=by simp[fJ]
  rw[e]
  exact q _ _ ia' la' (r'.setSucc hm) (by simp[upd,e0]) (by simp[upd,e1])
theorem vx(n:Int)(S:SS)(p:Int):(addP n S p).nodes.length≤S.nodes.length+1∧∀m,((addP n S p).succ m).length≤(S.succ m).length+1:=by
 refine⟨to S p,λm=>?_⟩
 simp only[addP,setF]
 split
 ·rename_i h;subst h;simp
 ·exact gC _
theorem add_loop{Q:Fw→bk→Hp→Prop}{v:V}{hp0:Hp}{n:Int}(hv:∀h h',same v h h'):∀(ps:List Int)(S:SS)(hp:Hp)(ia la:Int→Addr)(loc:bk),Rep Z hp x dd D ia la R S→S.nodes.length+ps.length≤999→(∀m,(S.succ m).length+ps.length≤10000)→loc 0=some (.ref x)→loc 1=some (.int n)→
 (∀loc' hp' ia' la',Rep Z hp' x dd D ia' la' R (ps.foldl (addP n) S)→Q .next loc' hp')→eK v hp0 (aG 8) kz Q (ps.map .int) loc hp:=by
 intro xs_
 induction xs_ with
 |nil=>
  intro S hp ia la loc r _ _ e0 e1 q
  exact q loc hp ia la r
 |cons p ps ih=>
  intro S hp ia la loc r hz hs e0 e1 q
  refine gv ?_
  simp only[aD]at hz hs
  have:=vx n S p
  refine zt (n:=n) (p:=p) r (ac (dF (aI (bx _)) _) (ac hz (by decide))) (ac (aM _ _) (ac (hs p) (by decide))) (by simp[upd,e0]) (by simp[upd,e1]) (by simp) λloc' hp' ia' la' r' f0 f1=>⟨hv _ _,?_⟩
  exact ih _ hp' ia' la' loc' r' (ac (bI this.1 _) (ac (ax (ba _ 1 _)) hz)) (λm=>ac (bI (this.2 m) _) (ac (ax (ba _ 1 _)) (hs m))) f0 f1 q
theorem DQ{Q:V→Hp→Prop}{X:XA}{n:Int}{ps:List Int}(r:nr Z hp x S)(h0:S.ready=none)(hz:S.nodes.length+ps.length≤998)(hs:∀m,(S.succ m).length+ps.length≤10000)(q:∀hp',nr Z hp' x (addS S n ps)→Q .none hp'):m0 (.ref x:: .int n::ps.map .int) Q X hp:=by
 obtain⟨dd,D,ia,la,R,r⟩:=r
 have hpl:ps.length≤lim:=lim2 _ (ac (cP _ _) (ac hz (by decide)))
 refine⟨[(0,.ref x),(1,.int n),(4,.tup (ps.map .int))],?_,?_⟩
 ·exact if_pos (by rw[aj];exact hpl)
 have a5:∀(Q:V→Hp→Prop),b4 cT 5 (.ref x) Q hp=Q .none hp:=λQ=>r.at (by rw[h0];rfl) rfl
 simp[tG,↓a5,r.inst, -dw]
 refine qS r (aI (ac (aM _ _) (ac hz (by decide)))) λhp' ia' la' r'=>?_
 have hm:=pD S n
 rw[r'.slot hm (k:=1) (v:=.int (S.np n)) rfl rfl]
 refine⟨hpl,?_⟩
 rw[pv,setS_ref (r'.hi n hm)]
 have r2:=r'.setNp (k:=S.np n+ps.length) hm
 refine add_loop (n:=n) (by simp) ps _ _ ia' la' _ r2 ?_ (λm=>by have:=hs m;exact this) rfl rfl λloc' hp2 ia2 la2 r3=>?_
 ·exact ac (bI (to S n) _) (ac (ax (ba _ 1 _)) (aI hz))
 ·exact q _ ⟨dd,D,ia2,la2,R,r3⟩
theorem zp{Q:V→Hp→Prop}{X:XA}(q:∀x hp',hp x=ae→nr hp hp' x ⟨[],λz=>0,λz=>[],none,0,0⟩→Q (.ref x) hp'):xF cT lM [] Q X hp:=by
 intro x dd hx hd hne
 refine⟨[(0,.ref x),(10,.none)],rfl,?_⟩
 have e1:(upd (upd hp dd (.ns [])) x (.inst cT dd)) x=some (.inst cT dd):=by simp
 have e2:(upd (upd hp dd (.ns [])) x (.inst cT dd)) dd=some (.ns []):=by rw[upd_ne (aS hne)];simp
 generalize hh:upd (upd hp dd (.ns [])) x (.inst cT dd)=hp1 at e1 e2
 simp[qV]
 intro D hD ep
 have hDx:x≠D:=ne_none e1 hD
 have hDd:dd≠D:=ne_none e2 hD
 have m1:∀o,(upd (upd hp1 D (.dict [] ep)) dd o) x=some (.inst cT dd):=λo=>by rw[upd_ne hne,upd_ne hDx];exact e1
 have m2:∀o,(upd (upd hp1 D (.dict [] ep)) dd o) dd=some o:=λo=>upd_same _ _ _
 have uu:∀o o',upd (upd (upd hp1 D (.dict [] ep)) dd o) dd o'=upd (upd hp1 D (.dict [] ep)) dd o':=λo o'=>by funext j;simp only[upd];split<;>rfl
 have sA:∀(fs:List (Nat×V))(i:Nat)(v:V)(K:Hp→Prop),fs.length≤10→go cT i (.ref x) v K (upd (upd hp1 D (.dict [] ep)) dd (.ns fs))=K (upd (upd hp1 D (.dict [] ep)) dd (.ns (kl fs i v))):=λfs i v K hl=>by rw[setA_ref (m1 _) (m2 _) (ac hl (by decide)),uu]
 have s0:∀(i:Nat)(v:V)(K:Hp→Prop),go cT i (.ref x) v K (upd hp1 D (.dict [] ep))=K (upd (upd hp1 D (.dict [] ep)) dd (.ns (kl [] i v))):=λi v K=>setA_ref (by rw[upd_ne hDx];exact e1) (by rw[upd_ne hDd];exact e2) (by simp)
 simp[s0,sA,kl]
 have gr1:Grow hp hp1:=by
  intro b o e
  have n1:b≠dd:=ne_none e hd
  have n2:b≠x:=ne_none e hx
  rw[←hh,upd_ne n2,upd_ne n1];exact e
 refine q x _ hx ⟨dd,D,λz=>0,λz=>0,0,⟨m1 _,m2 _,⟨ep,?_⟩,by simp,by simp,by simp,by simp,by simp,by simp,by simp,by simp,?_,hx,hd,gr1.back hD,by simp,by simp,by simp⟩⟩
 ·rw[upd_ne (aS hDd)];simp
 ·exact(gr1.upd (gr1.back hD)).upd hd
end
section
variable{Z hp:Hp}{x dd D R:Addr}{ia la:Int→Addr}{S:SS}
noncomputable def outS(S:SS)(r:List Int):SS:=r.foldl (λS n=>{S with np:=setF S.np n (-1)}) S
theorem ks:∀(r:List Int)(S:SS),(outS S r).nodes=S.nodes∧(outS S r).succ=S.succ∧(outS S r).ready=S.ready∧(outS S r).pass=S.pass∧(outS S r).fin=S.fin∧∀m,(outS S r).np m=if m∈r then -1 else S.np m:=by
 intro xs_
 induction xs_ with
 |nil=>
  intro S
  exact⟨rfl,rfl,rfl,rfl,rfl,λm=>by simp[outS]⟩
 |cons n r ih=>
  intro S
  obtain⟨h1,h2,h3,h4,h5,h6⟩:=ih {S with np:=setF S.np n (-1)}
  refine⟨h1,h2,h3,h4,h5,λm=>?_⟩
  have:(outS S (n::r)).np m=(outS {S with np:=setF S.np n (-1)} r).np m:=rfl
  rw[this,h6]
  simp only[setF,am]
  by_cases c:m∈r<;>by_cases c2:m=n<;>simp[c,c2]
theorem Rep.item(r:Rep Z hp x dd D ia la R S){n:Int}(hn:n∈S.nodes){Q:V→Hp→Prop}:bw (.ref D) (.int n) Q hp=Q (.ref (ia n)) hp:=by
 obtain⟨ep,hD⟩:=r.hD
 exact item_dict hD (by rw[find_nodes,if_pos hn])
theorem ready_body{R':Fw→bk→Hp→Prop}{X:XS}{loc:bk}{n:Int}(r:Rep Z hp x dd D ia la R S)(hn:n∈S.nodes)(e13:loc 13=some (.ref D))(e1:loc 1=some (.int n))
 (q:∀hp',Rep Z hp' x dd D ia la R {S with np:=setF S.np n (-1)}→R' .next loc hp'):gk R' X loc hp:=by
 simp[gk,↓rd e13,↓rd e1,↓r.item hn,↓setS_ref (r.hi n hn),lY]
 exact q _ (r.setNp hn)
theorem uA{Q:Fw→bk→Hp→Prop}{v:V}{hp0:Hp}(hv:∀h h',same v h h'):∀(ns:List Int)(S:SS)(hp:Hp)(loc:bk),Rep Z hp x dd D ia la R S→(∀n∈ns,n∈S.nodes)→loc 13=some (.ref D)→
 (∀loc' hp',Rep Z hp' x dd D ia la R (outS S ns)→(∀i,i≠1→loc' i=loc i)→Q .next loc' hp')→eK v hp0 (aG 1) gk Q (ns.map .int) loc hp:=by
 intro xs_
 induction xs_ with
 |nil=>
  intro S hp loc r _ e q
  exact q loc hp r λz z=>rfl
 |cons n ns ih=>
  intro S hp loc r h e q
  refine gv ?_
  refine ready_body (n:=n) r (h n ak) (by simp[upd,e]) (by simp) λhp' r'=>⟨hv _ _,?_⟩
  exact ih _ hp' _ r' (λm hm=>h m (aq _ hm)) (by simp[upd,e]) λloc' hp2 r2 h2=>q loc' hp2 r2 λi hi=>by rw[h2 i hi,upd_ne hi]
noncomputable def lc(S:SS)(r:List Int):SS:={outS S r with ready:=some [],pass:=S.pass+r.length}
theorem AV{Q:V→Hp→Prop}{X:XA}{r:List Int}(o:nr Z hp x S)(hr:S.ready=some r)(hn:∀n∈r,n∈S.nodes)(hl:r.length≤1000)(q:∀hp',nr Z hp' x (lc S r)→Q (.tup (r.map .int)) hp'):io [.ref x] Q X hp:=by
 obtain⟨dd,D,ia,la,R,o⟩:=o
 refine⟨[(0,.ref x)],rfl,?_⟩
 have hrv:A4 R S.ready= .ref R:=by rw[hr];rfl
 have a5:∀(Q:V→Hp→Prop),b4 cT 5 (.ref x) Q hp=Q (.ref R) hp:=λQ=>o.at (by rw[hrv];rfl) rfl
 have a2:∀(Q:V→Hp→Prop),b4 cT 2 (.ref x) Q hp=Q (.ref D) hp:=λQ=>o.at rfl rfl
 have hlim:(r.map V.int).length≤lim:=by rw[aj];exact lim2 _ hl
 simp[lB,↓a5,↓a2,↓sW (o.hr r hr) hlim, -dw]
 refine uA (by simp) r S hp _ o hn rfl λloc' hp' o' hloc=>?_
 obtain⟨h1,h2,h3,h4,h5,h6⟩:=ks r S
 have e0:loc' 0=some (.ref x):=by rw[hloc 0 (by decide)];simp[upd,locOf_cons]
 have e3:loc' 3=some (.tup (r.map .int)):=by rw[hloc 3 (by decide)];simp[upd]
 have hr':(outS S r).ready=some r:=by rw[h3];exact hr
 have b5:∀(Q:V→Hp→Prop),b4 cT 5 (.ref x) Q hp'=Q (.ref R) hp':=λQ=>o'.at (by rw[hr'];rfl) rfl
 simp only[rd e0,b5]
 refine⟨isLst_ref (o'.hr r hr'),R,_,rfl,o'.hr r hr',hlim,?_⟩
 have o2:=o'.setReady (q:=[]) hr'
 rw[dR]at o2
 have b11:∀(Q:V→Hp→Prop),b4 cT 11 (.ref x) Q (upd hp' R (.lst []))=Q (.int S.pass) (upd hp' R (.lst [])):=λQ=>o2.at (by simp only[A4];rw[h4];rfl) rfl
 simp only[b11,rd e3]
 have hrl:r.length≤lim:=lim2 _ hl
 simp[hrl]
 rw[setA_ref o2.hx o2.hd (by simp)]
 have o3:=o2.setD (p:=S.pass+r.length) (f:=(outS S r).fin)
 refine q _ ⟨dd,D,ia,la,R,?_⟩
 simpa[kl,lc]using o3
theorem tD{Q:V→Hp→Prop}{X:XA}{r:List Int}(o:nr Z hp x S)(hr:S.ready=some r)(hl:r.length≤1000)(q:Q (.bool (decide (S.fin<S.pass)|| !r.isEmpty)) hp):fk [.ref x] Q X hp:=by
 obtain⟨dd,D,ia,la,R,o⟩:=o
 refine⟨[(0,.ref x)],rfl,?_⟩
 have a5:∀(Q:V→Hp→Prop),b4 cT 5 (.ref x) Q hp=Q (.ref R) hp:=λQ=>o.at (by rw[hr];rfl) rfl
 have a11:∀(Q:V→Hp→Prop),b4 cT 11 (.ref x) Q hp=Q (.int S.pass) hp:=λQ=>o.at rfl rfl
 have a12:∀(Q:V→Hp→Prop),b4 cT 12 (.ref x) Q hp=Q (.int S.fin) hp:=λQ=>o.at rfl rfl
 have hlim:r.length≤lim:=lim2 _ hl
 simp[lA,↓a5,↓a11,↓a12, -dw]
 split
 ·rename_i c;simpa[c]using q
 ·rename_i c
  refine⟨_,r.map .int,rfl,listOf_ref (o.hr r hr),by simpa using hlim,?_⟩
  have:(r.map V.int).isEmpty=r.isEmpty:=by cases r<;>rfl
  rw[this];simpa[c]using q
noncomputable def decS(S:SS)(s:Int):SS:={S with np:=setF S.np s (S.np s - 1),ready:=if S.np s - 1=0 then S.ready.map (·++[s])else S.ready}
noncomputable def ph(S:SS)(n:Int):SS:={(S.succ n).foldl decS {S with np:=setF S.np n (-2)}with fin:=S.fin+1}
theorem dec_body{R':Fw→bk→Hp→Prop}{X:XS}{loc:bk}{s:Int}{r:List Int}(o:Rep Z hp x dd D ia la R S)(hn:s∈S.nodes)(hr:S.ready=some r)(hl:r.length≤10000)(e0:loc 0=some (.ref x))(e13:loc 13=some (.ref D))(e23:loc 23=some (.int s))
 (q:∀loc' hp',Rep Z hp' x dd D ia la R (decS S s)→(∀i,i≠24→loc' i=loc i)→R' .next loc' hp'):jK R' X loc hp:=by
 have o2:=o.setNp (k:=S.np s - 1) hn
 have sl:∀(Q:V→Hp→Prop),iy cN 1 (.ref (ia s)) Q (upd hp (ia s) (.sl cN [some (.int s),some (.int (S.np s - 1)),some (.ref (la s))]))=Q (.int (S.np s - 1)) (upd hp (ia s) (vI s (S.np s - 1) (la s))):=λQ=>sl_ref (upd_same ..) rfl rfl
 have a5:∀(Q:V→Hp→Prop),b4 cT 5 (.ref x) Q (upd hp (ia s) (vI s (S.np s - 1) (la s)))=Q (.ref R) (upd hp (ia s) (vI s (S.np s - 1) (la s))):=λQ=>o2.at (by simp only[hr,A4];rfl) rfl
 simp[jK,↓rd e13,↓rd e23,↓rd e0,↓o.item hn,↓o.slot hn (k:=1) (v:=.int (S.np s)) rfl rfl,↓setS_ref (o.hi s hn),lY,↓sl,↓a5, -dw]
 split
 ·rename_i c
  refine⟨isLst_ref (o2.hr r hr),gM (o2.hr r hr) (by simp;exact lim4 (cu hl)) ?_⟩
  rw[show gp V.int r++[V.int s]=(r++[s]).map .int by simp]
  have o3:=o2.setReady (q:=r++[s]) hr
  refine q _ _ ?_ λi hi=>upd_ne hi
  simpa[decS,c,hr]using o3
 ·rename_i c
  refine q _ _ ?_ λi hi=>upd_ne hi
  simpa[decS,c]using o2
theorem zi{Q:Fw→bk→Hp→Prop}{hp0:Hp}{n:Int}:∀(ss:List Int)(S:SS)(hp:Hp)(loc:bk)(r:List Int),Rep Z hp x dd D ia la R S→n∈S.nodes→hp0 (la n)=some (.lst ((S.succ n).map .int))→(∀s∈ss,s∈S.nodes)→S.ready=some r→r.length+ss.length≤10000→loc 0=some (.ref x)→loc 13=some (.ref D)→
 (∀loc' hp',Rep Z hp' x dd D ia la R (ss.foldl decS S)→(∀i,i≠23→i≠24→loc' i=loc i)→Q .next loc' hp')→eK (.ref (la n)) hp0 (aG 23) jK Q (ss.map .int) loc hp:=by
 intro xs_
 induction xs_ with
 |nil=>
  intro S hp loc r o _ _ _ _ _ _ _ q
  exact q loc hp o λz z z=>rfl
 |cons s ss ih=>
  intro S hp loc r o hn h0 h hr hl e0 e13 q
  refine gv ?_
  simp only[aD]at hl
  refine dec_body (s:=s) o (h s ak) hr (ac (aM _ _) hl) (by simp[upd,e0]) (by simp[upd,e13]) (by simp) λloc' hp' o' hloc=>⟨?_,?_⟩
  ·show hp' (la n)=hp0 (la n)
   rw[h0,o'.hl n hn];rfl
  ·have hr':∃r',(decS S s).ready=some r'∧r'.length≤r.length+1:=by
    simp only[decS,hr]
    split
    ·exact⟨_,rfl,by simp⟩
    ·exact⟨_,rfl,gC _⟩
   obtain⟨r',hr',hl'⟩:=hr'
   refine ih _ hp' loc' r' o' hn h0 (λm hm=>h m (aq _ hm)) hr' (ac (bI hl' _) (ac (ax (ba _ 1 _)) hl)) ?_ ?_ λloc2 hp2 o2 h2=>q loc2 hp2 o2 λi h1 h3=>?_
   ·rw[hloc 0 (by decide)];simp[upd,e0]
   ·rw[hloc 13 (by decide)];simp[upd,e13]
   ·rw[h2 i h1 h3,hloc i h3,upd_ne h1]
theorem lZ:∀(ss:List Int)(S:SS),(ss.foldl decS S).nodes=S.nodes∧(ss.foldl decS S).succ=S.succ∧(ss.foldl decS S).pass=S.pass∧(ss.foldl decS S).fin=S.fin:=by
 intro xs_
 induction xs_ with
 |nil=>
  intro S
  exact⟨rfl,rfl,rfl,rfl⟩
 |cons s ss ih=>
  intro S
  exact ih (decS S s)
theorem done_body{R':Fw→bk→Hp→Prop}{X:XS}{loc:bk}{n:Int}{r:List Int}(o:Rep Z hp x dd D ia la R S)(hn:n∈S.nodes)(hm:S.np n= -1)(hs:∀s∈S.succ n,s∈S.nodes)(hr:S.ready=some r)(hl:r.length+(S.succ n).length≤10000)(e0:loc 0=some (.ref x))(e13:loc 13=some (.ref D))(e1:loc 1=some (.int n))
 (q:∀loc' hp',Rep Z hp' x dd D ia la R (ph S n)→(loc' 0=loc 0∧loc' 13=loc 13)→R' .next loc' hp'):jJ R' X loc hp:=by
 obtain⟨ep,hD⟩:=o.hD
 have dg:∀(Q:V→Hp→Prop)(X:XA),xp [.ref D,.int n] Q X hp=Q (.ref (ia n)) hp:=by
  intro Q X
  apply propext;constructor
  ·rintro⟨a,es,ep',k,h1,h2,h3⟩
   simp only[iR,V.ref.injEq,V.int.injEq,and_true]at h1
   obtain⟨rfl,rfl⟩:=h1
   rw[hD]at h2;cases h2;rw[find_nodes,if_pos hn]at h3;exact h3
  ·intro h;exact⟨_,_,_,_,rfl,hD,by rw[find_nodes,if_pos hn];exact h⟩
 have isd:qz hp (.ref D):=⟨D,_,ep,rfl,hD⟩
 have o2:=o.setNp (k:= -2) hn
 have sl2:∀(Q:V→Hp→Prop),iy cN 2 (.ref (ia n)) Q (upd hp (ia n) (.sl cN [some (.int n),some (.int (-2)),some (.ref (la n))]))=Q (.ref (la n)) (upd hp (ia n) (vI n (-2) (la n))):=λQ=>sl_ref (upd_same ..) rfl rfl
 simp[jJ,↓rd e13,↓rd e1,↓rd e0,↓dg,isd,↓o.slot hn (k:=1) (v:=.int (S.np n)) rfl rfl,hm,↓setS_ref (o.hi n hn),lY,↓sl2, -dw]
 refine⟨(S.succ n).map .int,om (o2.hl n hn),?_⟩
 refine zi (S.succ n) _ _ _ r o2 hn (o2.hl n hn) hs hr hl (by simp[upd,e0]) (by simp[upd,e13]) λloc' hp' o' hloc=>?_
 have f0:loc' 0=some (.ref x):=by rw[hloc 0 (by decide) (by decide)];simp[upd,e0]
 have f13:loc' 13=some (.ref D):=by rw[hloc 13 (by decide) (by decide)];simp[upd,e13]
 have hf:=lZ (S.succ n) {S with np:=setF S.np n (-2)}
 have b12:∀(Q:V→Hp→Prop),b4 cT 12 (.ref x) Q hp'=Q (.int S.fin) hp':=λQ=>o'.at (by rw[hf.2.2.2];rfl) rfl
 simp only[rd f0,b12,pv]
 rw[setA_ref o'.hx o'.hd (by simp)]
 have o3:=o'.setD (p:=((S.succ n).foldl decS {S with np:=setF S.np n (-2)}).pass) (f:=S.fin+1)
 refine q _ _ ?_ ⟨by rw[f0,e0],by rw[f13,e13]⟩
 simpa[kl,ph]using o3
end
section
variable{Z hp:Hp}{x dd D R:Addr}{ia la:Int→Addr}{S:SS}
noncomputable def rE:SS→List Int→Prop
 |_,[]=>True
 |S,n::ns=>n∈S.nodes∧S.np n= -1∧(∀s∈S.succ n,s∈S.nodes)∧(∃r,S.ready=some r∧r.length+(S.succ n).length≤10000)∧rE (ph S n) ns
theorem wC{Q:Fw→bk→Hp→Prop}{v:V}{hp0:Hp}(hv:∀h h',same v h h'):∀(ns:List Int)(S:SS)(hp:Hp)(loc:bk),Rep Z hp x dd D ia la R S→rE S ns→loc 0=some (.ref x)→loc 13=some (.ref D)→
 (∀loc' hp',Rep Z hp' x dd D ia la R (ns.foldl ph S)→Q .next loc' hp')→eK v hp0 (aG 1) jJ Q (ns.map .int) loc hp:=by
 intro xs_
 induction xs_ with
 |nil=>
  intro S hp loc o _ _ _ q
  exact q loc hp o
 |cons n ns ih=>
  rintro S hp loc o ⟨h1,h2,h3,⟨r,h4,h5⟩,h6⟩ e0 e13 q
  refine gv ?_
  refine done_body (n:=n) (r:=r) o h1 h2 h3 h4 h5 (by simp[upd,e0]) (by simp[upd,e13]) (by simp) λloc' hp' o' hl=>⟨hv _ _,?_⟩
  exact ih _ hp' loc' o' h6 (by rw[hl.1];simp[upd,e0]) (by rw[hl.2];simp[upd,e13]) q
theorem CB{Q:V→Hp→Prop}{X:XA}{ns:List Int}(o:nr Z hp x S)(hk:rE S ns)(hl:ns.length≤1000)(hr:S.ready≠none)(q:∀hp',nr Z hp' x (ns.foldl ph S)→Q .none hp'):lN (.ref x::ns.map .int) Q X hp:=by
 obtain⟨dd,D,ia,la,R,o⟩:=o
 refine⟨[(0,.ref x),(21,.tup (ns.map .int))],?_,?_⟩
 ·exact if_pos (by rw[aj];exact lim2 _ hl)
 obtain⟨r,hr⟩:∃r,S.ready=some r:=by
  cases h:S.ready with
  |none=>exact absurd h hr
  |some r=>exact⟨r,rfl⟩
 have a5:∀(Q:V→Hp→Prop),b4 cT 5 (.ref x) Q hp=Q (.ref R) hp:=λQ=>o.at (by rw[hr];rfl) rfl
 have a2:∀(Q:V→Hp→Prop),b4 cT 2 (.ref x) Q hp=Q (.ref D) hp:=λQ=>o.at rfl rfl
 simp[qW,↓a5,↓a2, -dw]
 exact wC (by simp) ns S hp _ o hk rfl rfl λloc' hp' o'=>q hp' ⟨dd,D,ia,la,R,o'⟩
noncomputable abbrev F4:=List (Int×List Int)
noncomputable def Ch(succ:Int→List Int)(B:Int→Prop)(root:Int→Prop):Int→F4→Prop
 |v,[]=>root v
 |v,(u,rem)::st=>(∃c,succ u=c++v::rem∧∀y∈c,¬B y)∧Ch succ B root u st
end
noncomputable abbrev kU:=Int×List Int×Addr
noncomputable def mK:List kU→List (Int×V)
 | []=>[]
 |e::st=>mK st++[(e.1,V.int st.length)]
structure FS(hpS hp:Hp)(a14 a15 a16 a17:Addr)(la:Int→Addr)(S:SS)(seen:List Int)(st:List kU):Prop where
 gr:Grow hpS hp
 n14:hpS a14=ae
 n15:hpS a15=ae
 n16:hpS a16=ae
 n17:hpS a17=ae
 h14:hp a14=some (.lst (st.reverse.map λe=>V.int e.1))
 h15:hp a15=some (.lst (st.reverse.map λe=>V.nxt e.2.2))
 h16:hp a16=some (.set seen)
 h17:∃ep,hp a17=some (.dict (mK st) ep)
 ne:a14≠a15
 its:∀e∈st,e.1∈S.nodes∧hpS e.2.2=ae∧∃k,hp e.2.2=some (.it (la e.1) k)∧(S.succ e.1).drop k=e.2.1
 dis:(st.map (·.2.2)).Nodup
 ndn:(st.map (·.1)).Nodup
 sin:∀e∈st,e.1∈seen
 snd:seen.Nodup
 sns:∀s∈seen,s∈S.nodes
theorem ent_any(v:Int):∀st:List kU,(mK st).any (λe=>decide (e.1=v))=decide (v∈st.map (·.1)):=by
 intro xs_
 induction xs_ with
 |nil=>
  exact rfl
 |cons e st ih=>
  rw[mK,List.any_append,ih]
  simp only[kh,List.any_nil,Bool.or_false,ar,am,Bool.decide_or]
  have hc:decide (e.1=v)=decide (v=e.1):=decide_eq_decide.mpr ⟨Eq.symm,Eq.symm⟩
  rw[hc,CZ]
theorem vj:∀st:List kU,(mK st).length=st.length:=by
 intro xs_
 induction xs_ with
 |nil=>
  exact rfl
 |cons e st ih=>
  simp[mK,ih]
theorem AL{v:Int}{u:V}{st:List kU}(h:v∉st.map (·.1)):sM (mK st) v u=mK st++[(v,u)]:=by
 unfold sM
 rw[ent_any,if_neg (by simpa using h)]
theorem ent_keys:∀(st:List kU)(p:Int×V),p∈mK st→p.1∈st.map (·.1)
 |e::st,p,h=>by
  rw[mK]at h
  rcases aL.mp h with h|h
  ·exact aq _ (ent_keys st p h)
  ·simp at h;subst h;simp
theorem ent_del{e:kU}{st:List kU}(h:e.1∉st.map (·.1)):eDel (mK (e::st)) e.1=mK st:=by
 unfold eDel
 rw[mK,w9]
 have:(mK st).filter (λp=>decide (p.1≠e.1))=mK st:=by
  apply cm.mpr
  intro p hp
  have:=ent_keys st p hp
  simp only[decide_eq_true_eq]
  intro z;rw[z]at this;exact h this
 rw[this];simp
noncomputable def posI(v:Int)(st:List kU):Nat:=(st.map (·.1)).reverse.idxOf v
theorem x7(v:Int):∀st:List kU,(st.map (·.1)).Nodup→v∈st.map (·.1)→sw (mK st) v=some (.int (posI v st:Nat)):=by
 intro xs_
 induction xs_ with
 |nil=>
  intros;simp_all
 |cons e st IH=>
  intro hn hv
  rw[ar,aP]at hn
  unfold sw
  rw[mK,cZ]
  by_cases c:v∈st.map (·.1)
  ·have ih:=IH hn.2 c
   unfold sw at ih
   cases q:(mK st).find? λp=>decide (p.1=v)with
   |none=>rw[q]at ih;cases ih
   |some p=>
    rw[q]at ih
    simp only[dE,eJ]at ih
    simp only[Option.some_or,dE,ih]
    congr 3
    unfold posI
    rw[ar,kb,zw,if_pos (by simpa using c)]
  ·have hve:v=e.1:=by simpa[c]using hv
   subst hve
   have:(mK st).find? (λp=>decide (p.1=e.1))=none:=by
    rw[jN]
    intro p hp z
    simp only[decide_eq_true_eq]at z
    have:=ent_keys st p hp
    rw[z]at this;exact c this
   rw[this]
   simp only[Option.none_or,cF,decide_true,dE]
   congr 3
   unfold posI
   rw[ar,kb,zw,if_neg (by simpa using c)]
   simp
section
variable{hpS hp:Hp}{a14 a15 a16 a17:Addr}{la:Int→Addr}{S:SS}{seen:List Int}{st:List kU}
theorem FS.n_it(f:FS hpS hp a14 a15 a16 a17 la S seen st){e:kU}(he:e∈st):e.2.2≠a14∧e.2.2≠a15∧e.2.2≠a16∧e.2.2≠a17:=by
 refine(f.its e he).elim λz r2_=>r2_.elim λz r4_=>r4_.elim λk r5_=>r5_.elim λh z=>?_
 refine f.h17.elim λep h17=>?_
 exact⟨ne_of h f.h14 (by simp),ne_of h f.h15 (by simp),ne_of h f.h16 (by simp),ne_of h h17 (by simp)⟩
theorem FS.n16x(f:FS hpS hp a14 a15 a16 a17 la S seen st):a16≠a14∧a16≠a15∧a16≠a17∧a17≠a14∧a17≠a15:=by
 refine f.h17.elim λep h17=>?_
 exact⟨ne_of f.h16 f.h14 (by simp),ne_of f.h16 f.h15 (by simp),ne_of f.h16 h17 (by simp),ne_of h17 f.h14 (by simp),ne_of h17 f.h15 (by simp)⟩
theorem FS.push(f:FS hpS hp a14 a15 a16 a17 la S seen st){v:Int}{I:Addr}{hp':Hp}{ep:Nat}(hv:v∉seen)(hn:v∈S.nodes)(hI:hp I=ae)
 (e14:hp' a14=some (.lst ((st.reverse.map λe=>V.int e.1)++[.int v])))(e15:hp' a15=some (.lst ((st.reverse.map λe=>V.nxt e.2.2)++[.nxt I])))(e16:hp' a16=some (.set (v::seen)))(e17:hp' a17=some (.dict (mK st++[(v,V.int st.length)]) ep))
 (eI:hp' I=some (.it (la v) 0))(eo:∀a,a≠a14→a≠a15→a≠a16→a≠a17→a≠I→hp' a=hp a):FS hpS hp' a14 a15 a16 a17 la S (v::seen) ((v,S.succ v,I)::st):=by
 refine⟨?_,f.n14,f.n15,f.n16,f.n17,by simpa using e14,by simpa using e15,e16,⟨ep,by simpa[mK]using e17⟩,f.ne,λe he=>?_,?_,?_,λe he=>?_,?_,λs hs=>?_⟩
 ·intro a o e
  rw[eo a (ne_none e f.n14) (ne_none e f.n15) (ne_none e f.n16) (ne_none e f.n17) (ne_none (f.gr _ _ e) hI)]
  exact f.gr _ _ e
 ·rcases am.mp he with rfl|he
  ·exact⟨hn,f.gr.back hI,0,eI,by simp⟩
  ·refine(f.its e he).elim λh1 r1_=>r1_.elim λh2 r2_=>r2_.elim λk r3_=>r3_.elim λh3 h4=>?_
   refine(f.n_it he).elim λm1 r1_=>r1_.elim λm2 r2_=>r2_.elim λm3 m4=>?_
   exact⟨h1,h2,k,by rw[eo _ m1 m2 m3 m4 (ne_none h3 hI)];exact h3,h4⟩
 ·rw[ar,aP]
  refine⟨λh=>?_,f.dis⟩
  refine(ay.mp h).elim λe r1_=>r1_.elim λhe h=>?_
  refine(f.its e he).elim λz r2_=>r2_.elim λz r4_=>r4_.elim λk r5_=>r5_.elim λh3 z=>?_
  exact ne_none h3 hI h
 ·rw[ar,aP]
  refine⟨λh=>?_,f.ndn⟩
  refine(ay.mp h).elim λe r1_=>r1_.elim λhe h=>?_
  have:=f.sin e he
  rw[h]at this;exact hv this
 ·rcases am.mp he with rfl|he
  ·exact ak
  ·exact aq _ (f.sin e he)
 ·rw[aP];exact⟨hv,f.snd⟩
 ·rcases am.mp hs with rfl|hs
  ·exact hn
  ·exact f.sns s hs
theorem FS.next{u s:Int}{rem:List Int}{I:Addr}(f:FS hpS hp a14 a15 a16 a17 la S seen ((u,s::rem,I)::st)){k:Nat}(hk:hp I=some (.it (la u) k))(hd:(S.succ u).drop k=s::rem):FS hpS (upd hp I (.it (la u) (k+1))) a14 a15 a16 a17 la S seen ((u,rem,I)::st):=by
 refine(f.n_it (ak)).elim λm1 r1_=>r1_.elim λm2 r2_=>r2_.elim λm3 m4=>?_
 refine f.h17.elim λep h17=>?_
 have hI:=(f.its _ ak).2.1
 refine⟨f.gr.upd hI,f.n14,f.n15,f.n16,f.n17,by rw[upd_ne (aS m1)];simpa using f.h14,by rw[upd_ne (aS m2)];simpa using f.h15,by rw[upd_ne (aS m3)];exact f.h16,⟨ep,by rw[upd_ne (aS m4)];simpa[mK]using h17⟩,f.ne,λe he=>?_,f.dis,f.ndn,λe he=>?_,f.snd,f.sns⟩
 ·rcases am.mp he with rfl|he
  ·refine⟨(f.its _ ak).1,hI,k+1,by simp,?_⟩
   have:(S.succ u).drop (k+1)=((S.succ u).drop k).drop 1:=by rw[Bx]
   rw[this,hd];rfl
  ·refine(f.its e (aq _ he)).elim λh1 r1_=>r1_.elim λh2 r2_=>r2_.elim λk' r3_=>r3_.elim λh3 h4=>?_
   refine⟨h1,h2,k',?_,h4⟩
   rw[upd_ne];exact h3
   intro z
   have:=f.dis
   rw[ar,aP]at this
   exact this.1 (ay.mpr ⟨e,he,z⟩)
 ·rcases am.mp he with rfl|he
  ·exact f.sin (u,s::rem,I) ak
  ·exact f.sin e (aq _ he)
theorem FS.pop{u:Int}{rem:List Int}{I:Addr}(f:FS hpS hp a14 a15 a16 a17 la S seen ((u,rem,I)::st)){hp':Hp}{ep:Nat}
 (e14:hp' a14=some (.lst (st.reverse.map λe=>V.int e.1)))(e15:hp' a15=some (.lst (st.reverse.map λe=>V.nxt e.2.2)))(e17:hp' a17=some (.dict (mK st) ep))(eo:∀a,a≠a14→a≠a15→a≠a17→a≠I→hp' a=hp a):FS hpS hp' a14 a15 a16 a17 la S seen st:=by
 refine(f.n_it (ak)).elim λm1 r1_=>r1_.elim λm2 r2_=>r2_.elim λm3 m4=>?_
 have hI:=(f.its _ ak).2.1
 refine f.n16x.elim λp1 r1_=>r1_.elim λp2 r2_=>r2_.elim λp3 r3_=>r3_.elim λp4 p5=>?_
 have dis:=f.dis
 have ndn:=f.ndn
 rw[ar,aP]at dis ndn
 refine⟨?_,f.n14,f.n15,f.n16,f.n17,e14,e15,by rw[eo a16 p1 p2 p3 (aS m3)];exact f.h16,⟨ep,e17⟩,f.ne,λe he=>?_,dis.2,ndn.2,λe he=>f.sin e (aq _ he),f.snd,f.sns⟩
 ·intro a o e
  rw[eo a (ne_none e f.n14) (ne_none e f.n15) (ne_none e f.n17) (ne_none e hI)]
  exact f.gr _ _ e
 ·refine(f.its e (aq _ he)).elim λh1 r1_=>r1_.elim λh2 r2_=>r2_.elim λk' r3_=>r3_.elim λh3 h4=>?_
  refine(f.n_it (aq _ he)).elim λr1 r1_=>r1_.elim λr2 r2_=>r2_.elim λr3 r4=>?_
  refine⟨h1,h2,k',?_,h4⟩
  rw[eo _ r1 r2 r4];exact h3
  intro z
  exact dis.1 (ay.mpr ⟨e,he,z⟩)
end
theorem gK{α:Type}[DecidableEq α]:∀(xs ys:List α),xs.Nodup→(∀x∈xs,x∈ys)→xs.length≤ys.length:=by
 intro xs_
 induction xs_ with
 |nil=>
  intro ys _ _
  simp
 |cons x xs ih=>
  intro ys hn h
  rw[aP]at hn
  have hx:=h x ak
  have:=ih (ys.erase x) hn.2 λy hy=>by
   have:=h y (aq _ hy)
   rw[List.mem_erase_of_ne (by rintro rfl;exact hn.1 hy)];exact this
  rw[sE hx]at this
  exact ac (aI this) (ax (nZ (tS hx)))
theorem itemAt_last(xs:List V)(y:V):eN (xs++[y]) (-1)=some y:=by
 unfold eN
 have e:(-1+((xs++[y]).length:Int))=(xs.length:Int):=by rw[aJ,oF];exact j1 (xs.length:Int) 1
 rw[if_neg (by decide),if_pos (Int.neg_le_neg (bC.mpr (by rw[aJ];exact cP 1 _)): -((xs++[y]).length:Int)≤ -1),e,c7];simp
section
variable{Z hpS hp:Hp}{x dd D R a14 a15 a16 a17:Addr}{ia la:Int→Addr}{S:SS}{seen:List Int}{st:List kU}
theorem FS.len(f:FS hpS hp a14 a15 a16 a17 la S seen st)(hz:S.nodes.length≤1000):st.length≤1000∧seen.length≤1000:=by
 have h1:=gK (st.map (·.1)) S.nodes f.ndn (λv hv=>by
  obtain⟨e,he,rfl⟩:=ay.mp hv
  exact f.sns _ (f.sin e he))
 have h2:=gK seen S.nodes f.snd f.sns
 rw[aj]at h1
 exact⟨ac h1 hz,ac h2 hz⟩
structure LC(loc:bk)(D a14 a15 a16 a17:Addr):Prop where
 l13:loc 13=some (.ref D)
 l14:loc 14=some (.ref a14)
 l15:loc 15=some (.ref a15)
 l16:loc 16=some (.ref a16)
 l17:loc 17=some (.ref a17)
theorem LC.upd{loc:bk}{v:V}(l:LC loc D a14 a15 a16 a17):LC (Mine.upd loc 1 v) D a14 a15 a16 a17:=
 ⟨by rw[upd_ne (by decide)];exact l.l13,by rw[upd_ne (by decide)];exact l.l14,by rw[upd_ne (by decide)];exact l.l15,by rw[upd_ne (by decide)];exact l.l16,by rw[upd_ne (by decide)];exact l.l17⟩
theorem ze{R':Fw→bk→Hp→Prop}{X:XS}{loc:bk}{u:Int}{rem:List Int}{I:Addr}(r:Rep Z hpS x dd D ia la R S)(f:FS hpS hp a14 a15 a16 a17 la S seen ((u,rem,I)::st))(l:LC loc D a14 a15 a16 a17)
 (q1:∀s rem' hp',rem=s::rem'→FS hpS hp' a14 a15 a16 a17 la S seen ((u,rem',I)::st)→R' .brk (upd loc 1 (.int s)) hp')
 (q2:∀hp',rem=[]→FS hpS hp' a14 a15 a16 a17 la S seen st→R' .next loc hp'):eu R' X loc hp:=by
 obtain⟨hl1,hl2⟩:=f.len r.sz
 simp only[aD]at hl1
 obtain⟨hu,hIS,k,hk,hd⟩:=f.its _ ak
 simp only[]at hk hd hu hIS
 have h15:=f.h15
 have h14:=f.h14
 simp only[kb,dG,ar,dR]at h15 h14
 obtain⟨ep,h17⟩:=f.h17
 obtain⟨m1,m2,m3,m4⟩:=f.n_it (ak)
 obtain⟨p1,p2,p3,p4,p5⟩:=f.n16x
 have hlim:lim=1000000:=rfl
 have hsl:=f.gr _ _ (r.hl u hu)
 have hle:((st.reverse.map λe=>V.nxt e.2.2)++[V.nxt I]).length≤lim:=by simp;exact lim2 _ hl1
 simp[eu,↓rd l.l15,↓item_list h15 hle (itemAt_last _ _), -dw]
 refine⟨_,_,hk,_,hsl,?_⟩
 rw[e7]
 cases rem with
 |cons s rem'=>
  have:(S.succ u)[k]?=some s:=by
   have:=congrArg (λz:List Int=>z[0]?) hd
   simpa using this
  rw[this]
  simp only[dE]
  exact q1 s rem' _ rfl (f.next hk hd)
 |nil=>
  have:(S.succ u)[k]?=none:=by
   have:=congrArg (λz:List Int=>z[0]?) hd
   simpa using this
  rw[this]
  simp only[Option.map_none]
  have g14:(del hp I) a14=some (.lst ((st.reverse.map λe=>V.int e.1)++[.int u])):=by rw[del_ne (aS m1)];exact h14
  have g15:(del hp I) a15=some (.lst ((st.reverse.map λe=>V.nxt e.2.2)++[.nxt I])):=by rw[del_ne (aS m2)];exact h15
  have g17:(del hp I) a17=some (.dict (mK ((u,[],I)::st)) ep):=by rw[del_ne (aS m4)];exact h17
  simp only[rd l.l17,rd l.l14,rd l.l15]
  have hun:u∉st.map (·.1):=by have:=f.ndn;rw[ar,aP]at this;exact this.1
  refine⟨isLst_ref g14,a14,_,V.int u,rfl,g14,by simp;exact lim2 _ hl1,by simp,?_⟩
  simp only[vE]
  refine⟨a17,u,_,ep,rfl,rfl,by rw[upd_ne p4];exact g17,by rw[vj];first|exact hl1|exact lim2 _ hl1|exact ac hl1 (of_decide_eq_true rfl),?_,λep'=>?_⟩
  ·rw[x7 u _ f.ndn (by simp)];rfl
  ·have f15:(upd (upd (del hp I) a14 (.lst (st.reverse.map λe=>V.int e.1))) a17 (.dict (eDel (mK ((u,[],I)::st)) u) ep')) a15=some (.lst ((st.reverse.map λe=>V.nxt e.2.2)++[.nxt I])):=by
    rw[upd_ne (aS p5),upd_ne (aS f.ne)];exact g15
   refine⟨isLst_ref f15,a15,_,V.nxt I,rfl,f15,by simp;exact lim2 _ hl1,by simp,?_⟩
   simp only[vE]
   refine q2 _ rfl (f.pop (ep:=ep') ?_ (by simp) ?_ λa n1 n2 n3 n4=>?_)
   ·rw[upd_ne f.ne,upd_ne (aS p4)];simp
   ·rw[upd_ne p5,upd_same];rw[show eDel (mK ((u,[],I)::st)) u=mK st from ent_del (e:=(u,[],I)) hun]
   ·rw[upd_ne n2,upd_ne n3,upd_ne n1,del_ne n4]
noncomputable def unw:List kU→Option (Int×List kU)
 | []=>none
 |(u,[],I)::st=>unw st
 |(u,s::rem,I)::st=>some (s,(u,rem,I)::st)
theorem zc{Q:Fw→bk→Hp→Prop}(r:Rep Z hpS x dd D ia la R S):∀(st:List kU)(n:Nat)(hp:Hp)(loc:bk),st.length<n→FS hpS hp a14 a15 a16 a17 la S seen st→LC loc D a14 a15 a16 a17→
 (∀s st' loc' hp',unw st=some (s,st')→FS hpS hp' a14 a15 a16 a17 la S seen st'→LC loc' D a14 a15 a16 a17→loc' 1=some (.int s)→Q .next loc' hp')→(unw st=none→∀hp',FS hpS hp' a14 a15 a16 a17 la S seen []→Q .brk loc hp')→
 kZ (me (ai 14)) eu (aA sK aH) Q n loc hp:=by
 intro st
 induction st with
 |nil=>
  intro n hp loc hn f l q1 q2
  obtain⟨n,rfl⟩:=fL (e9 hn)
  have h14:hp a14=some (.lst []):=by simpa using f.h14
  repeat refine rv l.l14 ?_
  try simp only[tr_ref h14]
  simp
  exact q2 rfl hp f
 |cons e st ih=>
  intro n hp loc hn f l q1 q2
  obtain⟨u,rem,I⟩:=e
  obtain⟨n,rfl⟩:=fL (e9 (bM (bx _) hn))
  simp only[aD]at hn
  have h14:=f.h14
  have hlim:lim=1000000:=rfl
  obtain⟨hl1,hl2⟩:=f.len r.sz
  have hne:(gp (λe:kU=>V.int e.1) ((u,rem,I)::st).reverse).isEmpty=false:=by simp
  repeat refine rv l.l14 ?_
  try simp only[tr_ref h14]
  rw[hne]
  refine⟨by rw[aj,mH];exact lim2 _ hl1,?_⟩
  simp only[BD,if_true]
  refine ze r f l (λs rem' hp' e f'=>?_) (λhp' e f'=>?_)
  ·subst e
   exact q1 s _ _ hp' rfl f' l.upd (by simp)
  ·subst e
   exact ih n hp' loc (lE hn) f' l q1 q2
end
section
variable{Z hpS hp:Hp}{x dd D R a14 a15 a16 a17:Addr}{ia la:Int→Addr}{S:SS}{seen:List Int}{st:List kU}
noncomputable def ring(v:Int)(st:List kU):List Int:=(st.map (·.1)).reverse.drop (posI v st)++[v]
theorem FS.inSeen(f:FS hpS hp a14 a15 a16 a17 la S seen st){v:Int}{Q:V→Hp→Prop}:p9 (.int v) (.ref a16) Q hp=Q (.bool (decide (v∈seen))) hp:=by
 apply propext;constructor
 ·rintro⟨r,h,q⟩
  obtain⟨k,hk,rfl⟩:=(inRes_o f.h16).mp h
  cases hk;exact q
 ·intro q;exact⟨_,(inRes_o f.h16).mpr ⟨v,rfl,rfl⟩,q⟩
theorem FS.inStk(f:FS hpS hp a14 a15 a16 a17 la S seen st){v:Int}{Q:V→Hp→Prop}:p9 (.int v) (.ref a17) Q hp=Q (.bool (decide (v∈st.map (·.1)))) hp:=by
 obtain⟨ep,h17⟩:=f.h17
 apply propext;constructor
 ·rintro⟨r,h,q⟩
  obtain⟨k,hk,rfl⟩:=(inRes_o h17).mp h
  cases hk;rw[ent_any]at q;exact q
 ·intro q;exact⟨_,(inRes_o h17).mpr ⟨v,rfl,rfl⟩,by rw[ent_any];exact q⟩
theorem fc_ring{Q:Fw→bk→Hp→Prop}{X:XS}{loc:bk}{v:Int}(r:Rep Z hpS x dd D ia la R S)(f:FS hpS hp a14 a15 a16 a17 la S seen st)(l:LC loc D a14 a15 a16 a17)(e1:loc 1=some (.int v))
 (q0:v∈st.map (·.1)→Q (.ret (.lst ((ring v st).map .int))) loc hp)(q1:v∉st.map (·.1)→Q .next loc hp):
 aA (kg (cG p9 (ai 1) (ai 17)) (aA (gH (aZ ef (kP (ai 14) (aZ bw (ai 17) (ai 1)) (aQ .none) (aQ .none)) (jS (av (ai 1) aF)))) aH) aH) aH Q X loc hp:=by
 obtain⟨hl1,hl2⟩:=f.len r.sz
 refine sq ?_
 rw[pg,jU,be,rd e1,be,rd l.l17,f.inStk,jb]
 by_cases c2:v∈st.map (·.1)
 ·rw[decide_eq_true c2]
  refine iT rfl ?_
  obtain⟨ep,h17⟩:=f.h17
  have hcut:oy (st.reverse.map λe=>V.int e.1) (some (posI v st:Nat)) ae ae=((st.map (·.1)).reverse.drop (posI v st)).map .int:=by
   rw[mW]
   simp[i4,uR]
  refine sq ?_
  repeat first|refine rv e1 ?_|refine rv l.l14 ?_|refine rv l.l17 ?_|refine cn ?_
  try simp only[item_dict h17 (x7 v st f.ndn c2)]
  refine⟨_,some (posI v st:Nat),ae,ae,listOf_ref f.h14,by simp;exact lim2 _ (f.len r.sz).1,rfl,rfl,rfl,by simp,?_⟩
  rw[hcut]
  simp only[rB,cD,be,rd e1,dz,oU]
  refine⟨lim2 _ (by simp),by simp;exact lim4 (ac (aI (ac (ie _ _) (f.len r.sz).1)) (by decide)),?_⟩
  rw[show((st.map (·.1)).reverse.drop (posI v st)).map V.int++[V.int v]=(ring v st).map .int by simp[ring]]
  exact q0 c2
 ·rw[decide_eq_false c2]
  refine iF bL ?_
  exact q1 c2
theorem AJ{Q:Fw→bk→Hp→Prop}{X:XS}{loc:bk}{v:Int}(r:Rep Z hpS x dd D ia la R S)(f:FS hpS hp a14 a15 a16 a17 la S seen st)(l:LC loc D a14 a15 a16 a17)(e1:loc 1=some (.int v))(hv:v∈S.nodes)(c:v∉seen)
 (q:∀I hp',FS hpS hp' a14 a15 a16 a17 la S (v::seen) ((v,S.succ v,I)::st)→Q .next loc hp'):
 aA (jk (bX xC BX (ai 16) (av (ai 1) aF))) (aA (jk (bX gJ ff (ai 15) (av (cX ul (aT xG (av (cX (iy cN 2) (aZ bw (ai 13) (ai 1))) aF))) aF)))
  (aA (bB (aT d9 (av (ai 14) aF)) (pf (ai 17) (ai 1))) (aA (jk (bX gJ ff (ai 14) (av (ai 1) aF))) aH))) Q X loc hp:=by
 have hlim:lim=1000000:=rfl
 obtain⟨hl1,hl2⟩:=f.len r.sz
 have c2:v∉st.map (·.1):=λh=>by
  obtain⟨e,he,rfl⟩:=ay.mp h
  exact c (f.sin e he)
 obtain⟨ep,h17⟩:=f.h17
 obtain⟨p1,p2,p3,p4,p5⟩:=f.n16x
 obtain⟨epD,hD⟩:=r.hD
 refine sq ?_
 rw[uf,iH,be,rd l.l16,cD,be,rd e1,dz]
 refine⟨⟨a16,_,rfl,f.h16⟩,a16,seen,v,rfl,f.h16,by unfold scanBound;exact bM (aI hl2) (by decide),?_⟩
 rw[if_neg c]
 refine nsq ?_
 have o1:∀a,a≠a16→upd hp a16 (.set (v::seen)) a=hp a:=λa h=>upd_ne h
 have g16:upd hp a16 (.set (v::seen)) a16=some (.set (v::seen)):=us
 generalize upd hp a16 (.set (v::seen))=hp1 at*
 have gD:=(o1 _ (ne_none hD f.n16)).trans (f.gr _ _ hD)
 have gi:=(o1 _ (ne_none (r.hi v hv) f.n16)).trans (f.gr _ _ (r.hi v hv))
 have gl:=(o1 _ (ne_none (r.hl v hv) f.n16)).trans (f.gr _ _ (r.hl v hv))
 have g15:=(o1 _ (aS p2)).trans f.h15
 refine rv l.l15 ?_
 refine⟨isLst_ref g15,?_⟩
 refine rv l.l13 (rv e1 (Gy gD (by rw[find_nodes,if_pos hv]) (Gs gi (k:=2) (v:=.ref (la v)) rfl rfl ?_)))
 refine⟨la v,_,rfl,gl,λI hI=>?_⟩
 have hI16:I≠a16:=by rintro rfl;rw[g16]at hI;cases hI
 have n14:a14≠I:=ne_none ((o1 _ (aS p1)).trans f.h14) hI
 have n15:a15≠I:=ne_none g15 hI
 have n17:a17≠I:=ne_none ((o1 _ (aS p3)).trans h17) hI
 have hIhp:hp I=ae:=(o1 I hI16).symm.trans hI
 have oo:∀a,a≠a16→a≠I→upd hp1 I (.it (la v) 0) a=hp a:=λa h h2=>(upd_ne h2).trans (o1 a h)
 have gI:upd hp1 I (.it (la v) 0) I=some (.it (la v) 0):=us
 have k16:=(upd_ne (v:=.it (la v) 0) (aS hI16)).trans g16
 refine⟨la v,0,gI,?_⟩
 generalize upd hp1 I (.it (la v) 0)=hp2 at*
 clear gD gi gl g15 g16 o1 hI hD
 refine nl ?_
 refine gM (us:=st.reverse.map λe=>V.nxt e.2.2) ((oo _ (aS p2) n15).trans f.h15) (by simp;exact lim2 _ hl1) (nsq ?_)
 rw[eY,dS,cD,be,rd l.l14,dz,len_ref (vs:=st.reverse.map λe=>V.int e.1) ((upd_ne f.ne).trans ((oo _ (aS p1) n14).trans f.h14)) (by simp;exact lim2 _ hl1),vm,be,rd l.l17,be,rd e1]
 refine⟨a17,v,rfl,rfl,?_⟩
 rw[upd_ne p5,oo _ (aS p3) n17,h17]
 refine⟨by rw[vj];first|exact hl1|exact ac hl1 (of_decide_eq_true rfl)|exact bM hl1 (of_decide_eq_true rfl),λep'=>nsq ?_⟩
 rw[AL c2,uf,iH,be,rd l.l14,cD,be,rd e1,dz]
 have k14:(upd (upd hp2 a15 (.lst ((st.reverse.map λe=>V.nxt e.2.2)++[.nxt I]))) a17 (.dict (mK st++[(v,.int (st.reverse.map λe=>V.int e.1).length)]) ep')) a14=some (.lst (st.reverse.map λe=>V.int e.1)):=
  (upd_ne (aS p4)).trans ((upd_ne f.ne).trans ((oo _ (aS p1) n14).trans f.h14))
 refine⟨isLst_ref k14,gM k14 (by simp;exact lim2 _ hl1) (nx (q I _ ?_))⟩
 exact f.push (v:=v) (I:=I) (ep:=ep') c hv hIhp us ((upd_ne (aS f.ne)).trans ((upd_ne (aS p5)).trans us)) ((upd_ne p1).trans ((upd_ne p3).trans ((upd_ne p2).trans k16))) ((upd_ne p4).trans (us.trans (by rw[aj,mH]))) ((upd_ne (aS n14)).trans ((upd_ne (aS n17)).trans ((upd_ne (aS n15)).trans gI)))
  (λa h1 h2 h3 h4 h5=>(upd_ne h1).trans ((upd_ne h4).trans ((upd_ne h2).trans (oo a h3 h5))))
theorem zd{R':Fw→bk→Hp→Prop}{X:XS}{loc:bk}{v:Int}(r:Rep Z hpS x dd D ia la R S)(f:FS hpS hp a14 a15 a16 a17 la S seen st)(l:LC loc D a14 a15 a16 a17)(e1:loc 1=some (.int v))(hv:v∈S.nodes)
 (q0:v∈seen→v∈st.map (·.1)→R' (.ret (.lst ((ring v st).map .int))) loc hp)
 (q1:∀seen1 st1,((v∈seen∧v∉st.map (·.1)∧seen1=seen∧st1=st)∨(v∉seen∧seen1=v::seen∧∃I,st1=(v,S.succ v,I)::st))→
  (∀s st' loc' hp',unw st1=some (s,st')→FS hpS hp' a14 a15 a16 a17 la S seen1 st'→LC loc' D a14 a15 a16 a17→loc' 1=some (.int s)→R' .next loc' hp')∧(unw st1=none→∀loc' hp',LC loc' D a14 a15 a16 a17→FS hpS hp' a14 a15 a16 a17 la S seen1 []→R' .brk loc' hp')):fH R' X loc hp:=by
 have wh:∀(seen1:List Int)(st1:List kU)(hp1:Hp),FS hpS hp1 a14 a15 a16 a17 la S seen1 st1→((v∈seen∧v∉st.map (·.1)∧seen1=seen∧st1=st)∨(v∉seen∧seen1=v::seen∧∃I,st1=(v,S.succ v,I)::st))→
  nxt (aA (mm (me (ai 14)) eu (aA sK aH)) aH) R' X .next loc hp1:=by
  intro seen1 st1 hp1 f1 h
  obtain⟨qa,qb⟩:=q1 seen1 st1 h
  exact nsq ⟨st1.length+1,zc r st1 _ hp1 loc (ct _) f1 l (λs st' loc' hp' h1 h2 h3 h4=>nx (qa s st' loc' hp' h1 h2 h3 h4)) (λh1 hp' h2=>qb h1 loc hp' l h2)⟩
 unfold fH
 refine sq ?_
 rw[pg,jU,be,rd e1,be,rd l.l16,f.inSeen,jb]
 by_cases c:v∈seen
 ·rw[decide_eq_true c]
  refine iT rfl ?_
  exact fc_ring r f l e1 (q0 c) λc2=>wh seen st hp f (.inl ⟨c,c2,rfl,rfl⟩)
 ·rw[decide_eq_false c]
  refine iF bL ?_
  exact AJ r f l e1 hv c λI hp' f'=>wh _ _ hp' f' (.inr ⟨c,rfl,I,rfl⟩)
end
noncomputable def toS(st:List kU):F4:=st.map λe=>(e.1,e.2.1)
structure GB(S:SS)(B:Int→Prop)(rank:Int→Nat):Prop where
 cls:∀v∈S.nodes,∀s∈S.succ v,s∈S.nodes
 bad:∀v∈S.nodes,B v→∃s∈S.succ v,B s
 good:∀v∈S.nodes,¬B v→∀s∈S.succ v,¬B s∧rank s<rank v
noncomputable def tZ(S:SS)(B:Int→Prop)(root:Int→Prop)(seen:List Int)(v:Int)(st:List kU):Prop:=
 v∈S.nodes∧Ch S.succ B root v (toS st)∧(∀s∈seen,s∉st.map (·.1)→¬B s)∧∀e∈st,e.1∈S.nodes
noncomputable def BY(S:SS)(B:Int→Prop)(root:Int→Prop)(seen:List Int)(st:List kU):Prop:=
 (match st with| []=>True|e::st'=>(∃c,S.succ e.1=c++e.2.1∧∀y∈c,¬B y)∧Ch S.succ B root e.1 (toS st'))∧(∀s∈seen,s∉st.map (·.1)→¬B s)∧∀e∈st,e.1∈S.nodes
section
variable{S:SS}{B:Int→Prop}{rank:Int→Nat}{root:Int→Prop}{seen:List Int}{v:Int}{st:List kU}
theorem y3(g:GB S B rank):∀(st:List kU),BY S B root seen st→(∀s st',unw st=some (s,st')→tZ S B root seen s st')∧(unw st=none→∀s∈seen,¬B s):=by
 intro st
 induction st with
 |nil=>exact λh=>⟨λs st' e=>by(cases e),λx s hs=>h.2.1 s hs (by simp)⟩
 |cons e st ih=>
  intro h
  obtain⟨u,rem,I⟩:=e
  obtain⟨⟨⟨c,hc,hg⟩,hch⟩,hf,hn⟩:=h
  cases rem with
  |nil=>
   have hu:u∈S.nodes:=hn (u,[],I) ak
   simp only[bD]at hc
   have hub:¬B u:=λhb=>by
    obtain⟨s,hs,hb'⟩:=g.bad u hu hb
    rw[hc]at hs;exact hg s hs hb'
   have:BY S B root seen st:=by
    refine⟨?_,λs hs hns=>?_,λe he=>hn e (aq _ he)⟩
    ·cases st with
     |nil=>trivial
     |cons e st'=>
      simp only[toS,ar,Ch]at hch
      obtain⟨⟨c',h1,h2⟩,h3⟩:=hch
      refine⟨⟨c'++[u],by rw[h1];simp,λy hy=>?_⟩,h3⟩
      rcases aL.mp hy with h|h
      ·exact h2 y h
      ·simp at h;subst h;exact hub
    ·by_cases z:s=u
     ·subst z;exact hub
     ·exact hf s hs (by simp only[ar,am,not_or];exact⟨z,hns⟩)
   exact ih this
  |cons s rem=>
   have hu:u∈S.nodes:=hn (u,s::rem,I) ak
   refine⟨λs' st' e=>?_,λe=>by cases e⟩
   simp only[unw,eJ,qj]at e
   obtain⟨rfl,rfl⟩:=e
   refine⟨g.cls u hu s (by rw[hc];simp),⟨⟨c,hc,hg⟩,hch⟩,hf,λe he=>?_⟩
   rcases am.mp he with rfl|he
   ·exact hu
   ·exact hn e (aq _ he)
theorem ch_rank(g:GB S B rank):∀(st:List kU)(v:Int),(∀e∈st,e.1∈S.nodes)→Ch S.succ B root v (toS st)→∀e∈st,¬B e.1→¬B v∧rank v<rank e.1:=by
 intro st
 induction st with
 |nil=>intro v _ _ e he;cases he
 |cons e0 st ih=>
  intro v hn h e he hb
  simp only[toS,ar,Ch]at h
  obtain⟨⟨c,hc,_⟩,hch⟩:=h
  have h0:=hn e0 ak
  have hv:v∈S.succ e0.1:=by rw[hc];simp
  rcases am.mp he with rfl|he
  ·exact g.good e.1 h0 hb v hv
  ·obtain⟨h1,h2⟩:=ih e0.1 (λe he=>hn e (aq _ he)) hch e he hb
   obtain⟨h3,h4⟩:=g.good e0.1 h0 h1 v hv
   exact⟨h3,ur h4 h2⟩
theorem tZ.bad(g:GB S B rank)(h:tZ S B root seen v st)(hm:v∈st.map (·.1)):B v:=by
 by_cases c:B v
 ·exact c
 ·obtain⟨e,he,rfl⟩:=ay.mp hm
  exact absurd (ch_rank g st e.1 h.2.2.2 h.2.1 e he c).2 (dh _)
theorem tZ.toB(h:tZ S B root seen v st){seen1:List Int}{st1:List kU}(hc:(v∈seen∧v∉st.map (·.1)∧seen1=seen∧st1=st)∨(v∉seen∧seen1=v::seen∧∃I,st1=(v,S.succ v,I)::st)):BY S B root seen1 st1:=by
 rcases hc with⟨h1,h2,rfl,rfl⟩|⟨h1,rfl,I,rfl⟩
 ·have hg:=h.2.2.1 v h1 h2
  refine⟨?_,h.2.2.1,h.2.2.2⟩
  have hch:=h.2.1
  cases st1 with
  |nil=>trivial
  |cons e st'=>
   simp only[toS,ar,Ch]at hch
   obtain⟨⟨c',h1,h2⟩,h3⟩:=hch
   refine⟨⟨c'++[v],by rw[h1];simp,λy hy=>?_⟩,h3⟩
   rcases aL.mp hy with h|h
   ·exact h2 y h
   ·simp at h;subst h;exact hg
 ·refine⟨⟨⟨[],by simp,by simp⟩,h.2.1⟩,λs hs hn=>?_,λe he=>?_⟩
  ·simp only[ar,am,not_or]at hn
   rcases am.mp hs with rfl|hs
   ·exact absurd rfl hn.1
   ·exact h.2.2.1 s hs hn.2
  ·rcases am.mp he with rfl|he
   ·exact h.1
   ·exact h.2.2.2 e he
noncomputable def remS(st:List kU):Nat:=(st.map λe=>e.2.1.length).sum
noncomputable def unS(succ:Int→List Int)(nodes seen:List Int):Nat:=((nodes.filter λn=>decide (n∉seen)).map λn=>(succ n).length).sum
theorem yJ:∀(st:List kU)(s:Int)(st':List kU),unw st=some (s,st')→remS st'+1=remS st:=by
 intro st
 induction st with
 |nil=>intro s st' h;cases h
 |cons e st ih=>
  intro s st' h
  obtain⟨u,rem,I⟩:=e
  cases rem with
  |nil=>
   exact(ih s st' h).trans (bH _).symm
  |cons x rem=>
   simp only[unw,eJ,qj]at h
   obtain⟨rfl,rfl⟩:=h
   exact ba _ _ _
theorem yA(succ:Int→List Int)(v:Int)(seen:List Int):∀(nodes:List Int),nodes.Nodup→v∈nodes→v∉seen→unS succ nodes (v::seen)+(succ v).length=unS succ nodes seen:=by
 intro xs_
 induction xs_ with
 |nil=>
  intros;simp_all
 |cons n nodes IH=>
  intro hn hv hs
  rw[aP]at hn
  unfold unS
  by_cases c:n=v
  ·subst c
   have e1:(n::nodes).filter (λm=>decide (m∉n::seen))=nodes.filter λm=>decide (m∉seen):=by
    rw[aU,if_neg (by simp)]
    apply zx
    intro m hm
    have:m≠n:=by rintro rfl;exact hn.1 hm
    simp[this]
   have e2:(n::nodes).filter (λm=>decide (m∉seen))=n::nodes.filter λm=>decide (m∉seen):=by
    rw[aU,if_pos (by simpa using hs)]
   rw[e1,e2,ar,bG];exact bu _ _
  ·have hv':v∈nodes:=by
    rcases am.mp hv with h|h
    ·exact absurd h.symm c
    ·exact h
   have ih:=IH hn.2 hv' hs
   unfold unS at ih
   rw[aU,aU]
   by_cases d:n∈seen
   ·rw[if_neg (by simp[d]),if_neg (by simp[d])];exact ih
   ·rw[if_pos (by simp[d,c]),if_pos (by simp[d])]
    rw[ar,ar,bG,bG,bK,ih]
end
section
variable{Z hpS hp:Hp}{x dd D R a14 a15 a16 a17:Addr}{ia la:Int→Addr}{S:SS}{B:Int→Prop}{rank:Int→Nat}{root:Int→Prop}
theorem zb{Q:Fw→bk→Hp→Prop}(r:Rep Z hpS x dd D ia la R S)(g:GB S B rank):∀(n:Nat)(seen:List Int)(st:List kU)(v:Int)(hp:Hp)(loc:bk),remS st+unS S.succ S.nodes seen<n→FS hpS hp a14 a15 a16 a17 la S seen st→LC loc D a14 a15 a16 a17→loc 1=some (.int v)→tZ S B root seen v st→
 (∀st v hp' loc',Ch S.succ B root v (toS st)→B v→v∈st.map (·.1)→(st.map (·.1)).Nodup→(∀e∈st,e.1∈S.nodes)→Grow hpS hp'→Q (.ret (.lst ((ring v st).map .int))) loc' hp')→
 (∀seen' hp' loc',(∀s∈seen,s∈seen')→v∈seen'→(∀s∈seen',¬B s)→FS hpS hp' a14 a15 a16 a17 la S seen' []→LC loc' D a14 a15 a16 a17→Q .next loc' hp')→
 kZ (me (aQ (.bool true))) fH aH Q n loc hp:=by
 intro n
 induction n with
 |zero=>intro seen st v hp loc hn;exact absurd hn (lO _)
 |succ n ih=>
  intro seen st v hp loc hn f l e1 inv q0 q1
  refine⟨true,rfl,nofun,iT rfl ?_⟩
  refine zd r f l e1 inv.1 (λhs hm=>q0 st v hp loc inv.2.1 (inv.bad g hm) hm f.ndn inv.2.2.2 f.gr) λseen1 st1 hc=>?_
  have ib:=y3 g _ (inv.toB hc)
  have hmu:remS st1+unS S.succ S.nodes seen1=remS st+unS S.succ S.nodes seen:=by
   rcases hc with⟨h1,h2,rfl,rfl⟩|⟨h1,rfl,I,rfl⟩
   ·rfl
   ·have:=yA S.succ v seen S.nodes r.nd inv.1 h1
    show(S.succ v).length+remS st+unS S.succ S.nodes (v::seen)=_;rw[←this,bu (S.succ v).length,bK,bu (S.succ v).length]
  have hsub:(∀s∈seen,s∈seen1)∧v∈seen1:=by
   rcases hc with⟨h1,h2,rfl,rfl⟩|⟨h1,rfl,I,rfl⟩
   ·exact⟨λs h=>h,h1⟩
   ·exact⟨λs h=>aq _ h,ak⟩
  refine⟨λs st' loc' hp' hu f' l' e'=>?_,λhu loc' hp' l' f'=>q1 seen1 hp' loc' hsub.1 hsub.2 (ib.2 hu) f' l'⟩
  have:=yJ st1 s st' hu
  exact ih seen1 st' s hp' loc' (lE (bM (ax ((ba (remS st') _ 1).trans ((congrArg (·+unS S.succ S.nodes seen1) this).trans hmu))) hn)) f' l' e' (ib.1 s st' hu) q0 λseen' hp2 loc2 h1 h2 h3 f2 l2=>q1 seen' hp2 loc2 (λs hs=>h1 s (hsub.1 s hs)) (h1 v hsub.2) h3 f2 l2
noncomputable def n8(B:Int→Prop)(nodes:List Int)(v:Int):Prop:=∃pre suf,nodes=pre++v::suf∧∀u∈pre,¬B u
theorem Cp{Q:Fw→bk→Hp→Prop}(r:Rep Z hpS x dd D ia la R S)(g:GB S B rank){hp0:Hp}(h0:hp0 D=hpS D):∀(suf pre seen:List Int)(hp:Hp)(loc:bk),S.nodes=pre++suf→(∀u∈pre,u∈seen)→(∀s∈seen,¬B s)→FS hpS hp a14 a15 a16 a17 la S seen []→LC loc D a14 a15 a16 a17→
 (∀st v hp' loc',Ch S.succ B (n8 B S.nodes) v (toS st)→B v→v∈st.map (·.1)→(st.map (·.1)).Nodup→(∀e∈st,e.1∈S.nodes)→Grow hpS hp'→Q (.ret (.lst ((ring v st).map .int))) loc' hp')→
 (∀hp' loc',(∀s∈S.nodes,¬B s)→Grow hpS hp'→Q .next loc' hp')→
 eK (.ref D) hp0 (aG 1) gV Q (suf.map .int) loc hp:=by
 intro xs_
 induction xs_ with
 |nil=>
  intro pre seen hp loc hnp hps hs f l q0 q1
  show Q .next loc hp
  rw[bD]at hnp
  exact q1 hp loc (λs h=>hs s (hps s (hnp▸h))) f.gr
 |cons v suf ih=>
  intro pre seen hp loc hnp hps hs f l q0 q1
  refine gv ?_
  have hv:v∈S.nodes:=by rw[hnp];simp
  have e1:(upd loc 1 (V.int v)) 1=some (.int v):=by simp
  have l':LC (upd loc 1 (V.int v)) D a14 a15 a16 a17:=l.upd
  obtain⟨epD,hD⟩:=r.hD
  have same:∀hp',Grow hpS hp'→same (.ref D) hp0 hp':=λhp' k=>by
   show hp' D=hp0 D
   rw[h0,k _ _ hD,hD]
  have hnp':S.nodes=(pre++[v])++suf:=by rw[hnp];simp
  simp only[gV,ue,pg,jU,be,rd e1,rd l'.l16,f.inSeen,jb]
  by_cases c:v∈seen
  ·simp only[c,decide_true,if_true,AM]
   refine⟨same hp f.gr,ih (pre++[v]) seen hp _ hnp' (λu hu=>?_) hs f l' q0 q1⟩
   rcases aL.mp hu with h|h
   ·exact hps u h
   ·simp at h;subst h;exact c
  ·simp only[c,decide_false]
   simp
   have inv:tZ S B (n8 B S.nodes) seen v []:=⟨hv,⟨pre,suf,hnp,λu hu=>hs u (hps u hu)⟩,λs h z=>hs s h,by simp⟩
   refine⟨remS []+unS S.succ S.nodes seen+1,zb r g _ seen [] v hp _ (ct _) f l' e1 inv (λst w hp' loc' h1 h2 h3 h4 h5 h6=>?_) (λseen' hp' loc' h1 h2 h3 f' l2=>?_)⟩
   ·exact q0 st w hp' loc' h1 h2 h3 h4 h5 h6
   ·refine⟨same hp' f'.gr,ih (pre++[v]) seen' hp' loc' hnp' (λu hu=>?_) h3 f' l2 q0 q1⟩
    rcases aL.mp hu with h|h
    ·exact h1 u (hps u h)
    ·simp at h;subst h;exact h2
theorem ym{Q:V→Hp→Prop}{X:XA}(r:nr Z hp x S)(g:GB S B rank)(q0:∀(st:List kU) v hp',Ch S.succ B (n8 B S.nodes) v (toS st)→B v→v∈st.map (·.1)→(st.map (·.1)).Nodup→(∀e∈st,e.1∈S.nodes)→Grow hp hp'→Q (.lst ((ring v st).map .int)) hp')
 (q1:∀hp',(∀s∈S.nodes,¬B s)→Grow hp hp'→Q .none hp'):d3 [.ref x] Q X hp:=by
 obtain⟨dd,D,ia,la,R,r⟩:=r
 refine⟨[(0,.ref x)],rfl,?_⟩
 have a2:∀(Q:V→Hp→Prop),b4 cT 2 (.ref x) Q hp=Q (.ref D) hp:=λQ=>r.at rfl rfl
 simp only[kf,ue,eY,lH,be,rd_loc,if_true,a2,iB,yb,dz]
 refine⟨by simp,λa14 h14=>⟨by simp,λa15 h15=>?_⟩⟩
 simp only[dS,dz]
 refine⟨rfl,λa16 h16=>?_⟩
 simp only[AQ]
 intro a17 h17 ep
 have n15:a15≠a14:=by rintro rfl;simp at h15
 rw[upd_ne n15]at h15
 have n16a:a16≠a15:=by rintro rfl;simp at h16
 rw[upd_ne n16a]at h16
 have n16b:a16≠a14:=by rintro rfl;simp at h16
 rw[upd_ne n16b]at h16
 have n17a:a17≠a16:=by rintro rfl;simp at h17
 rw[upd_ne n17a]at h17
 have n17b:a17≠a15:=by rintro rfl;simp at h17
 rw[upd_ne n17b]at h17
 have n17c:a17≠a14:=by rintro rfl;simp at h17
 rw[upd_ne n17c]at h17
 obtain⟨epD,hD⟩:=r.hD
 have f:FS hp (upd (upd (upd (upd hp a14 (.lst [])) a15 (.lst [])) a16 (.set [])) a17 (.dict [] ep)) a14 a15 a16 a17 la S [] []:=by
  refine⟨(((Grow.new h14).upd h15).upd h16).upd h17,h14,h15,h16,h17,?_,?_,?_,⟨ep,by simp[mK]⟩,aS n15,by simp,by simp,by simp,by simp,by simp,by simp⟩
  ·rw[upd_ne (aS n17c),upd_ne (aS n16b),upd_ne (aS n15)];simp
  ·rw[upd_ne (aS n17b),upd_ne (aS n16a)];simp
  ·rw[upd_ne (aS n17a)];simp
 have gD:=f.gr _ _ hD
 simp[-dw]
 refine⟨S.nodes.map .int,(r8 gD).trans (by simp),?_⟩
 refine Cp (Z:=Z) (x:=x) (R:=R) r g (hp0:=upd (upd (upd (upd hp a14 (.lst [])) a15 (.lst [])) a16 (.set [])) a17 (.dict [] ep)) (gD.trans hD.symm) S.nodes [] [] _ _ (by simp) (by simp) (by simp) f ⟨by simp[upd],by simp[upd],by simp[upd],by simp[upd],by simp[upd]⟩ (λst v hp' loc' h1 h2 h3 h4 h5 h6=>q0 st v hp' h1 h2 h3 h4 h5 h6) (λhp' loc' h1 h2=>q1 hp' h1 h2)
end
section
variable{Z hp:Hp}{x dd D R:Addr}{ia la:Int→Addr}{S:SS}{B:Int→Prop}{rank:Int→Nat}
theorem Rep.newReady(r:Rep Z hp x dd D ia la R S)(h:S.ready=none){l:Addr}{q:List Int}(hl:hp l=ae):Rep Z (upd (upd hp l (.lst (q.map .int))) dd (.ns [(2,.ref D),(5,.ref l),(11,.int S.pass),(12,.int S.fin)])) x dd D ia la l {S with ready:=some q}:=by
 obtain⟨ep,hD⟩:=r.hD
 have nl:∀a o,hp a=some o→a≠l:=λa o e=>ne_none e hl
 have K:∀a o,hp a=some o→a≠dd→(upd (upd hp l (.lst (q.map .int))) dd (.ns [(2,.ref D),(5,.ref l),(11,.int S.pass),(12,.int S.fin)])) a=some o:=λa o e n=>by rw[upd_ne n,upd_ne (nl a o e)];exact e
 refine{hx:=K _ _ r.hx (ne_of r.hx r.hd (by simp)),hd:=by simp[A4],hD:=⟨ep,K _ _ hD (ne_of hD r.hd (by simp))⟩,hi:=λn hn=>K _ _ (r.hi n hn) (ne_of (r.hi n hn) r.hd (by simp[vI])),hl:=λn hn=>K _ _ (r.hl n hn) (ne_of (r.hl n hn) r.hd (by simp))
        hr:=λq' h'=>?_,ii:=r.ii,ll:=r.ll,lR:=λz n hn=>nl _ _ (r.hl n hn),nd:=r.nd,df:=r.df,gr:=(r.gr.upd (r.gr.back hl)).upd r.od,ox:=r.ox,od:=r.od,oD:=r.oD,oi:=r.oi,oR:=λz=>r.gr.back hl,sz:=r.sz}
 cases h'
 rw[upd_ne (aS (nl _ _ r.hd))];simp
noncomputable def prepS(S:SS):SS:={S with ready:=some (S.nodes.filter λn=>decide (S.np n=0))}
theorem qR{Q:V→Hp→Prop}{X:XA}(o:nr Z hp x S)(hr:S.ready=none)(g:GB S B rank)(q0:∀hp',nr Z hp' x (prepS S)→(∃v∈S.nodes,B v)→X 1 hp')(q1:∀hp',nr Z hp' x (prepS S)→(∀s∈S.nodes,¬B s)→Q .none hp'):jd [.ref x] Q X hp:=by
 obtain⟨dd,D,ia,la,R,o⟩:=o
 refine⟨[(0,.ref x)],rfl,?_⟩
 have o0:locOf [(0,V.ref x)] 0=some (.ref x):=rfl
 generalize locOf [(0,V.ref x)]=lo at*
 obtain⟨ep,hD⟩:=o.hD
 have hsz:=ac o.sz (by decide:1000≤lim)
 unfold m8
 refine sq (rv o0 ((o.at (v:=.none) (by rw[hr];rfl) rfl).mpr (cn ⟨_,rfl,xb (iF (by decide) (nsq (rv o0 ((o.at rfl rfl).mpr ⟨⟨D,_,ep,rfl,hD⟩,nl ⟨D,_,ep,rfl,hD,S.nodes.map λn=>V.ref (ia n),(r7 hD).trans (by rw[bF];rfl),?_⟩⟩))))⟩)))
 refine cLp_pure (λn=>V.ref (ia n)) (λn=>decide (S.np n=0)) V.int S.nodes [] hp (by rw[dY,bH];exact hsz) rfl (λn hn acc ha R' hR=>gv (rv us ((o.slot hn (k:=1) rfl rfl).mpr (cn (eq_int (xb ?_)))))) (λl hl=>?_)
 ·by_cases c:S.np n=0
  ·rw[if_pos (decide_eq_true c)]at hR
   exact iT (decide_eq_true c) ⟨ha,rv us ((o.slot hn (k:=0) rfl rfl).mpr hR)⟩
  ·rw[if_neg (by simpa using c)]at hR
   exact iF (by simpa using c) hR
 ·have hx':=(o.grow (Grow.new (o:=.lst ((S.nodes.filter λn=>decide (S.np n=0)).map .int)) hl))
  have o2:=o.newReady hr (q:=S.nodes.filter λn=>decide (S.np n=0)) hl
  have o3:nr Z _ x (prepS S):=⟨dd,D,ia,la,l,o2⟩
  refine rv o0 ((setA_ref hx'.hx hx'.hd (aV rfl)).mpr (nsq (rv o0 ⟨o2.inst (by decide),nl (ym o3 ⟨g.cls,g.bad,g.good⟩ (λst v hp' h1 h2 h3 h4 h5 h6=>?_) λhp' h1 h2=>?_)⟩)))
  ·have hb:∃v∈S.nodes,B v:=by
    obtain⟨e,he,rfl⟩:=ay.mp h3
    exact⟨e.1,h5 e he,h2⟩
   have hln:(ring v st).length≤1001:=by
    unfold ring
    have:=gK (st.map (·.1)) S.nodes h4 (λw hw=>by obtain⟨e,he,rfl⟩:=ay.mp hw;exact h5 e he)
    have hz:=o.sz
    simp only[aJ,iW,mH,aj,aD,dY]at this⊢
    exact aI (ac (ie _ _) (ac this hz))
   exact gv (nsq (rv us ⟨_,rfl,λvs h=>by cases h;rw[aj];exact ac hln (by decide),iT (by simp[ring]) (sq (rv us (nl ⟨aV rfl,q0 hp' (o3.grow h6) hb⟩)))⟩))
  ·exact gv (nsq (rv us ⟨false,rfl,nofun,iF bL (nx (q1 hp' (o3.grow h2) h1))⟩))
end
theorem foldDec_spec:∀(ss:List Int)(S:SS)(r:List Int),S.ready=some r→∃z,(ss.foldl decS S).ready=some (r++z)∧z.Nodup∧(∀m,m∈z↔1≤S.np m∧S.np m≤(ss.count m:Int))∧∀m,(ss.foldl decS S).np m=S.np m - (ss.count m:Int):=by
 intro xs_
 induction xs_ with
 |nil=>
  intro S r h
  exact⟨[],by simpa using h,by simp,λm=>⟨nofun,λh=>absurd (fO h.1 h.2:(1:Int)≤(0:Nat)) (by decide)⟩,λm=>by simp⟩
 |cons s ss ih=>
  intro S r h
  have hnp:∀m,(decS S s).np m=if m=s then S.np s - 1 else S.np m:=λm=>by simp[decS,setF]
  by_cases c:S.np s - 1=0
  ·have hr:(decS S s).ready=some (r++[s]):=by simp[decS,h,c]
   obtain⟨z,h1,h2,h3,h4⟩:=ih (decS S s) _ hr
   refine⟨s::z,by rw[dZ,h1];simp,?_,λm=>?_,λm=>?_⟩
   ·rw[aP]
    refine⟨λhm=>?_,h2⟩
    have:=(h3 s).mp hm
    rw[hnp,if_pos rfl,c]at this;exact absurd this.1 (by decide)
   ·rw[am,h3,hnp,fP]
    by_cases e:m=s
    ·subst e;simp;exact Fb c
    ·have:(s==m)=false:=by simpa using λz=>e z.symm
     simp[e,this]
   ·rw[dZ,h4,hnp,fP]
    by_cases e:m=s
    ·subst e;simp;rw[El,oF 1]
    ·have:(s==m)=false:=by simpa using λz=>e z.symm
     simp[e,this]
  ·have hr:(decS S s).ready=some r:=by simp[decS,h,c]
   obtain⟨z,h1,h2,h3,h4⟩:=ih (decS S s) _ hr
   refine⟨z,by rw[dZ,h1],h2,λm=>?_,λm=>?_⟩
   ·rw[h3,hnp,fP]
    by_cases e:m=s
    ·subst e;simp;exact Fa c
    ·have:(s==m)=false:=by simpa using λz=>e z.symm
     simp[e,this]
   ·rw[dZ,h4,hnp,fP]
    by_cases e:m=s
    ·subst e;simp;rw[El,oF 1]
    ·have:(s==m)=false:=by simpa using λz=>e z.symm
     simp[e,this]
noncomputable def inc(nodes:List Int)(succ:Int→List Int)(order:List Int)(n:Int):Nat:=((nodes.filter λp=>decide (p∉order)).map λp=>(succ p).count n).sum
theorem y5(succ:Int→List Int)(n c:Int)(order:List Int):∀nodes:List Int,nodes.Nodup→c∈nodes→c∉order→inc nodes succ (order++[c]) n+(succ c).count n=inc nodes succ order n:=by
 intro xs_
 induction xs_ with
 |nil=>
  intros;simp_all
 |cons p nodes IH=>
  intro hn hc ho
  rw[aP]at hn
  unfold inc
  by_cases e:p=c
  ·subst e
   have e1:(p::nodes).filter (λm=>decide (m∉order++[p]))=nodes.filter λm=>decide (m∉order):=by
    rw[aU,if_neg (by simp)]
    apply zx
    intro m hm
    have:m≠p:=by rintro rfl;exact hn.1 hm
    simp[this]
   have e2:(p::nodes).filter (λm=>decide (m∉order))=p::nodes.filter λm=>decide (m∉order):=by
    rw[aU,if_pos (by simpa using ho)]
   rw[e1,e2,ar,bG];exact bu _ _
  ·have hc':c∈nodes:=by
    rcases am.mp hc with h|h
    ·exact absurd h.symm e
    ·exact h
   have ih:=IH hn.2 hc' ho
   unfold inc at ih
   rw[aU,aU]
   by_cases d:p∈order
   ·rw[if_neg (by simp[d]),if_neg (by simp[d])];exact ih
   ·rw[if_pos (by simp[d,e]),if_pos (by simp[d])]
    rw[ar,ar,bG,bG,bK,ih]
theorem Ag:∀(xs:List Nat),xs.sum≠0→∃x∈xs,x≠0:=by
 intro xs_
 induction xs_ with
 |nil=>
  intro h
  exact absurd rfl h
 |cons x xs ih=>
  intro h
  by_cases c:x=0
  ·subst c
   obtain⟨y,hy,h'⟩:=ih (by simpa using h)
   exact⟨y,aq _ hy,h'⟩
  ·exact⟨x,ak,c⟩
theorem v0:∀(xs:List Nat),xs.sum=0→∀x∈xs,x=0:=by
 intro xs_
 induction xs_ with
 |nil=>
  intros;simp_all
 |cons x xs ih=>
  intro h y hy
  simp only[bG]at h
  rcases am.mp hy with rfl|hy
  ·exact(nc.mp h).1
  ·exact ih (nc.mp h).2 y hy
theorem inc_zero{nodes:List Int}{succ:Int→List Int}{order:List Int}{n:Int}:inc nodes succ order n=0↔∀p∈nodes,n∈succ p→p∈order:=by
 unfold inc
 constructor
 ·intro h p hp hn
  by_cases c:p∈order
  ·exact c
  ·have:=v0 _ h ((succ p).count n) (ay.mpr ⟨p,aO.mpr ⟨hp,by simpa using c⟩,rfl⟩)
   exact absurd hn (dN.mp this)
 ·intro h
  by_cases c:((nodes.filter λp=>decide (p∉order)).map λp=>(succ p).count n).sum=0
  ·exact c
  ·obtain⟨x,hx,hne⟩:=Ag _ c
   obtain⟨p,hp,rfl⟩:=ay.mp hx
   obtain⟨h1,h2⟩:=aO.mp hp
   have:n∈succ p:=by
    by_cases z:n∈succ p
    ·exact z
    ·exact absurd (dN.mpr z) hne
   exact absurd (h p h1 this) (by simpa using h2)
structure KI(nodes:List Int)(succ:Int→List Int)(order W r:List Int)(S:SS):Prop where
 hn:S.nodes=nodes
 hs:S.succ=succ
 rd:S.ready=some r
 ps:S.pass=order.length+W.length
 fi:S.fin=order.length
 dis:(order++(W++r)).Nodup
 sub:∀n∈order++(W++r),n∈nodes
 nW:∀n∈W,S.np n= -1
 nE:∀n∈nodes,n∉order→n∉W→S.np n=inc nodes succ order n
 zero:∀n∈nodes,n∉order→(n∈W++r↔inc nodes succ order n=0)
 zo:∀n∈order,inc nodes succ order n=0
section
variable{nodes:List Int}{succ:Int→List Int}{order W r:List Int}{S:SS}
theorem KI.start(nd:nodes.Nodup)(hn:S.nodes=nodes)(hs:S.succ=succ)(hp:S.pass=0)(hf:S.fin=0)(hnp:∀n∈nodes,S.np n=inc nodes succ [] n):KI nodes succ [] [] (nodes.filter λn=>decide (S.np n=0)) (prepS S):=by
 refine⟨hn,hs,by simp[prepS,hn],by simp[prepS,hp],by simp[prepS,hf],?_,?_,by simp,λn h z z=>hnp n h,λn h z=>?_,by simp⟩
 ·simp only[a8];exact nd.filter _
 ·intro n h
  simp only[a8]at h
  exact(aO.mp h).1
 ·simp only[a8,aO,h,true_and,decide_eq_true_eq]
  rw[hnp n h];exact iz _
theorem KI.out(k:KI nodes succ order W r S):KI nodes succ order (W++r) [] (lc S r):=by
 obtain⟨h1,h2,h3,h4,h5,h6⟩:=ks r S
 have hW:∀n∈W++r,(lc S r).np n= -1:=by
  intro n hn
  show(outS S r).np n= -1
  rw[h6]
  split
  ·rfl
  ·rename_i c
   rcases aL.mp hn with h|h
   ·exact k.nW n h
   ·exact absurd h c
 refine⟨h1.trans k.hn,h2.trans k.hs,rfl,?_,?_,by simpa using k.dis,by simpa using k.sub,hW,λn h1 h2 h3=>?_,?_,k.zo⟩
 ·show S.pass+(r.length:Int)=_
  rw[k.ps,aJ,tI];rfl
 ·show(outS S r).fin=_
  rw[h5];exact k.fi
 ·show(outS S r).np n=_
  have h3':n∉W∧n∉r:=by simpa using h3
  rw[h6,if_neg h3'.2];exact k.nE n h1 h2 h3'.1
 ·simpa using k.zero
theorem KI.done(nd:nodes.Nodup)(k:KI nodes succ order W r S){c:Int}(hc:c∈W)(hcl:∀n∈nodes,∀s∈succ n,s∈nodes):S.np c= -1∧c∈nodes∧∃z,KI nodes succ (order++[c]) (W.erase c) (r++z) (ph S c):=by
 have hcn:c∈nodes:=k.sub c (by simp[hc])
 have hco:c∉order:=λh=>by
  have:=k.dis
  rw[bg]at this
  exact this.2.2 c h c (by simp[hc]) rfl
 have dW:(W++r).Nodup:=(bg.mp k.dis).2.1
 have hWn:W.Nodup:=(bg.mp dW).1
 refine⟨k.nW c hc,hcn,?_⟩
 have hrd:({S with np:=setF S.np c (-2)}:SS).ready=some r:=k.rd
 obtain⟨z,h1,h2,h3,h4⟩:=foldDec_spec (S.succ c) {S with np:=setF S.np c (-2)} r hrd
 obtain⟨f1,f2,f3,f4⟩:=lZ (S.succ c) {S with np:=setF S.np c (-2)}
 have hsc:S.succ c=succ c:=by rw[k.hs]
 rw[hsc]at h1 h3 h4 f1 f2 f3 f4
 have inc1:∀n,inc nodes succ (order++[c]) n+(succ c).count n=inc nodes succ order n:=λn=>y5 succ n c order nodes nd hcn hco
 have fresh:∀n,n∈succ c→n∉order∧n∉W∧n∉r:=by
  intro n hn
  have hnn:=hcl c hcn n hn
  have hpos:inc nodes succ order n≠0:=λz=>hco (inc_zero.mp z c hcn hn)
  refine⟨λh=>hpos (k.zo n h),λh=>?_,λh=>?_⟩
  ·by_cases o:n∈order
   ·exact hpos (k.zo n o)
   ·exact hpos ((k.zero n hnn o).mp (by simp[h]))
  ·by_cases o:n∈order
   ·exact hpos (k.zo n o)
   ·exact hpos ((k.zero n hnn o).mp (by simp[h]))
 have npz:∀m,m≠c→({S with np:=setF S.np c (-2)}:SS).np m=S.np m:=λm hm=>by simp[setF,hm]
 have cc:c∉succ c:=λh=>(fresh c h).2.1 hc
 have zmem:∀m,m∈z↔m∈nodes∧m∉order∧m≠c∧m∉W∧m∉r∧m∈succ c∧inc nodes succ (order++[c]) m=0:=by
  intro m
  rw[h3]
  constructor
  ·rintro⟨g1,g2⟩
   have hm:m∈succ c:=by
    by_cases q:m∈succ c
    ·exact q
    ·rw[dN.mpr q]at g2
     have g3:=fO g1 g2
     simp at g3
   have hmc:m≠c:=λe=>cc (e▸hm)
   obtain⟨a1,a2,a3⟩:=fresh m hm
   have hmn:=hcl c hcn m hm
   rw[npz m hmc,k.nE m hmn a1 a2]at g1 g2
   exact⟨hmn,a1,hmc,a2,a3,hm,z0 (inc1 m) g2⟩
  ·rintro⟨a1,a2,a3,a4,a5,a6,a7⟩
   rw[npz m a3,k.nE m a1 a2 a4]
   rw[←inc1 m,a7,bH]
   exact⟨bC.mpr (List.count_pos_iff.mpr a6),vU _⟩
 have npd:∀m,(ph S c).np m=({S with np:=setF S.np c (-2)}:SS).np m - ((succ c).count m:Int):=λm=>by
  show(iU decS {S with np:=setF S.np c (-2)} (S.succ c)).np m=_
  rw[hsc];exact h4 m
 have eW:∀n,n∈W.erase c↔n∈W∧n≠c:=λn=>by rw[hWn.mem_erase_iff];exact⟨λh=>⟨h.2,h.1⟩,λh=>⟨h.2,h.1⟩⟩
 have pm:List.Perm ((order++[c])++(W.erase c++(r++z))) ((order++(W++r))++z):=by
  simpa[b7]using ((List.perm_cons_erase hc).symm.append_right (r++z)).append_left order
 refine⟨z,?_,?_,?_,?_,?_,?_,?_,?_,?_,?_,?_⟩
 ·show(iU decS {S with np:=setF S.np c (-2)} (S.succ c)).nodes=_
  rw[hsc,f1];exact k.hn
 ·show(iU decS {S with np:=setF S.np c (-2)} (S.succ c)).succ=_
  rw[hsc,f2];exact k.hs
 ·show(iU decS {S with np:=setF S.np c (-2)} (S.succ c)).ready=_
  rw[hsc,h1]
 ·show(iU decS {S with np:=setF S.np c (-2)} (S.succ c)).pass=_
  rw[hsc,f3]
  have e:(W.erase c).length+1=W.length:=by rw[sE hc];exact nZ (tS hc)
  rw[aJ]
  refine k.ps.trans (e▸?_)
  exact(congrArg ((order.length:Int)+·) (oF ((W.erase c).length:Int) 1)).trans (tI _ _ _).symm
 ·show S.fin+1=_
  rw[k.fi];simp
 ·refine pm.nodup_iff.mpr (bg.mpr ⟨k.dis,h2,λa ha b hb e=>?_⟩)
  rw[←e]at hb
  have zz:=(zmem a).mp hb
  rcases aL.mp ha with h|h
  ·exact zz.2.1 h
  ·exact(aL.mp h).elim zz.2.2.2.1 zz.2.2.2.2.1
 ·intro n hn
  rcases aL.mp (pm.mem_iff.mp hn)with h|h
  ·exact k.sub n h
  ·exact((zmem n).mp h).1
 ·intro n hn
  obtain⟨h,hne⟩:=(eW n).mp hn
  rw[npd,npz n hne,k.nW n h,dN.mpr (λq=>(fresh n q).2.1 h)];simp
 ·intro n hn ho hw
  have ho':n∉order∧n≠c:=by simpa using ho
  have hw':n∉W:=λh=>hw ((eW n).mpr ⟨h,ho'.2⟩)
  rw[npd,npz n ho'.2,k.nE n hn ho'.1 hw',←inc1 n]
  exact j1 (inc nodes succ (order++[c]) n:Int) ((succ c).count n:Int)
 ·intro n hn ho
  have ho':n∉order∧n≠c:=by simpa using ho
  have hz:=k.zero n hn ho'.1
  have:=inc1 n
  constructor
  ·intro h
   rcases aL.mp h with h|h
   ·exact z1 this (hz.mp (cz _ ((eW n).mp h).1))
   ·rcases aL.mp h with h|h
    ·exact z1 this (hz.mp (eS _ h))
    ·exact((zmem n).mp h).2.2.2.2.2.2
  ·intro h
   by_cases q:n∈succ c
   ·obtain⟨a1,a2,a3⟩:=fresh n q
    have:=(zmem n).mpr ⟨hn,a1,ho'.2,a2,a3,q,h⟩
    simp[this]
   ·rw[dN.mpr q]at this
    have:=hz.mpr (this.symm.trans h)
    rcases aL.mp this with h'|h'
    ·exact cz _ ((eW n).mpr ⟨h',ho'.2⟩)
    ·simp[h']
 ·intro n hn
  have:=inc1 n
  rcases aL.mp hn with h|h
  ·exact z1 this (k.zo n h)
  ·simp at h;subst h
   exact z1 this ((k.zero n hcn hco).mp (by simp[hc]))
end
noncomputable def Lv(S:SS):Nat→Int→Prop
 |0,v=>v∈S.nodes
 |k+1,v=>v∈S.nodes∧∃s∈S.succ v,Lv S k s
theorem Lv.down{S:SS}:∀{k:Nat}{v:Int},Lv S (k+1) v→Lv S k v:=by
 intro n_
 induction n_ with
 |zero=>
  intro v h
  exact h.1
 |succ k ih=>
  rintro v ⟨h1,s,h2,h3⟩
  exact⟨h1,s,h2,ih h3⟩
theorem Lv.le{S:SS}{k j:Nat}{v:Int}(h:Lv S k v)(hj:j≤k):Lv S j v:=by
 induction hj with
 |refl=>exact h
 |step _ ih=>exact ih h.down
theorem DI{P:Nat→Prop}(h:∃k,P k):∃k,P k∧∀j,j<k→¬P j:=by
 obtain⟨k,hk⟩:=h
 induction k using Nat.strongRecOn with
 |ind k ih=>
  by_cases c:∃j,j<k∧P j
  ·obtain⟨j,hj,hp⟩:=c;exact ih j hj hp
  ·exact⟨k,hk,λj hj hp=>c ⟨j,hj,hp⟩⟩
theorem zr{P:Nat→Int→Prop}(dn:∀k v,¬P k v→¬P (k+1) v):∀ss:List Int,(∀s∈ss,∃k,¬P k s)→∃K,∀s∈ss,¬P K s:=by
 intro xs_
 induction xs_ with
 |nil=>
  intro _
  exact⟨0,by simp⟩
 |cons s ss IH=>
  intro h
  obtain⟨K,hK⟩:=IH λt ht=>h t (aq _ ht)
  obtain⟨k,hk⟩:=h s ak
  have up:∀v a b,¬P a v→¬P (a+b) v:=λv a b hn=>by
   induction b with
   |zero=>exact hn
   |succ b ih=>exact dn _ _ ih
  refine⟨K+k,λt ht=>?_⟩
  rcases am.mp ht with rfl|ht
  ·rw[bu];exact up _ _ _ hk
  ·exact up _ _ _ (hK t ht)
theorem gb_exists(S:SS)(cls:∀v∈S.nodes,∀s∈S.succ v,s∈S.nodes):∃B rank,GB S B rank∧∀v∈S.nodes,B v↔∀k,Lv S k v:=by
 have hr:∀v,∃k,(∃j,¬Lv S j v)→¬Lv S k v∧∀j,j<k→Lv S j v:=by
  intro v
  by_cases c:∃j,¬Lv S j v
  ·obtain⟨k,h1,h2⟩:=DI c
   exact⟨k,λy=>⟨h1,λj hj=>tV.mp (h2 j hj)⟩⟩
  ·exact⟨0,λh=>absurd h c⟩
 refine⟨λv=>∀k,Lv S k v,λv=>(hr v).choose,⟨cls,λv hv hb=>?_,λv hv hb s hs=>?_⟩,λv y=>Iff.rfl⟩
 ·by_cases c:∃s∈S.succ v,∀k,Lv S k s
  ·exact c
  ·exfalso
   obtain⟨K,hK⟩:=zr (P:=Lv S) (λk v h h'=>h h'.down) (S.succ v) λs hs=>by
    by_cases q:∃k,¬Lv S k s
    ·exact q
    ·exact absurd ⟨s,hs,λk=>tV.mp λz=>q ⟨k,z⟩⟩ c
   obtain⟨_,s,hs,h⟩:=hb (K+1)
   exact hK s hs h
 ·have hb':∃j,¬Lv S j v:=GM.mp hb
  obtain⟨h1,h2⟩:=(hr v).choose_spec hb'
  cases q:(hr v).choose with
  |zero=>rw[q]at h1;exact absurd hv h1
  |succ j=>
   rw[q]at h1
   have hsj:¬Lv S j s:=λh=>h1 ⟨hv,s,hs,h⟩
   refine⟨λh=>hsj (h j),?_⟩
   obtain⟨g1,g2⟩:=(hr s).choose_spec ⟨j,hsj⟩
   by_cases c:(hr s).choose<j+1
   ·exact c
   ·exact absurd (g2 j (bZ c)) hsj
noncomputable def uT(S:SS)(n:Int):Nat:=(S.nodes.map λp=>(S.succ p).count n).sum
structure WS(S:SS):Prop where
 nd:S.nodes.Nodup
 df:∀m,m∉S.nodes→S.succ m=[]
theorem tJ(nodes:List Int)(f g:Int→Nat)(p:Int)(d:Nat)(hn:nodes.Nodup)(hp:p∈nodes)(h1:f p=g p+d)(h2:∀m,m≠p→f m=g m):(nodes.map f).sum=(nodes.map g).sum+d:=by
 induction nodes with
 |nil=>cases hp
 |cons n nodes ih=>
  rw[aP]at hn
  by_cases c:n=p
  ·subst c
   have:nodes.map f=nodes.map g:=gQ λm hm=>h2 m (by rintro rfl;exact hn.1 hm)
   simp only[ar,bG,this,h1];exact ba _ _ _
  ·have hp':p∈nodes:=by
    rcases am.mp hp with h|h
    ·exact absurd h.symm c
    ·exact h
   simp only[ar,bG,ih hn.2 hp',h2 n c];exact(bK _ _ _).symm
theorem WS.get{S:SS}(w:WS S)(n:Int):WS (fJ S n)∧∀m,uT (fJ S n) m=uT S m:=by
 by_cases c:n∈S.nodes
 ·have:fJ S n=S:=by simp[fJ,c]
  rw[this];exact⟨w,λz=>rfl⟩
 ·have hs:(fJ S n).nodes=S.nodes++[n]:=by simp[fJ,c]
  refine⟨⟨?_,λm hm=>?_⟩,λm=>?_⟩
  ·rw[hs,bg]
   exact⟨w.nd,by simp,λa ha b hb=>by simp at hb;subst hb;rintro rfl;exact c ha⟩
  ·rw[hs]at hm
   exact w.df m λh=>hm (cz _ h)
  ·unfold uT
   rw[hs,dG,A0]
   have:(fJ S n).succ=S.succ:=rfl
   rw[this]
   simp[w.df n c]
theorem WS.addP{S:SS}(w:WS S)(n p:Int):WS (addP n S p)∧(∀m,uT (addP n S p) m=uT S m+if m=n then 1 else 0):=by
 obtain⟨w1,t1⟩:=w.get p
 have hp:=pD S p
 have hs:(Mine.addP n S p).nodes=(fJ S p).nodes:=rfl
 have hsu:∀m,(Mine.addP n S p).succ m=if m=p then S.succ p++[n]else S.succ m:=λm=>rfl
 refine⟨⟨w1.nd,λm hm=>?_⟩,λm=>?_⟩
 ·rw[hs]at hm
  have:m≠p:=by rintro rfl;exact hm hp
  rw[hsu,if_neg this];exact w1.df m hm
 ·rw[←t1 m]
  unfold uT
  rw[hs]
  refine tJ _ _ _ p _ w1.nd hp ?_ λk hk=>?_
  ·rw[hsu,if_pos rfl,zA]
   show _=(S.succ p).count m+_
   congr 1
   by_cases c:m=n
   ·subst c;simp
   ·simp[c,fP,aS c]
  ·rw[hsu,if_neg hk];rfl
theorem y9(n:Int):∀(ps:List Int)(S:SS),WS S→WS (ps.foldl (addP n) S)∧(∀m,uT (ps.foldl (addP n) S) m=uT S m+if m=n then ps.length else 0)∧(ps.foldl (addP n) S).np=S.np∧(ps.foldl (addP n) S).ready=S.ready∧(ps.foldl (addP n) S).pass=S.pass∧(ps.foldl (addP n) S).fin=S.fin∧
 (∀m,m∈(ps.foldl (addP n) S).nodes↔m∈S.nodes∨m∈ps)∧(∀p m,m∈(ps.foldl (addP n) S).succ p↔m∈S.succ p∨(m=n∧p∈ps))∧∀p,((ps.foldl (addP n) S).succ p).length≤(S.succ p).length+ps.length:=by
 intro xs_
 induction xs_ with
 |nil=>
  intro S w
  exact⟨w,λm=>by simp,rfl,rfl,rfl,rfl,λm=>by simp,λp m=>by simp,λp=>by simp⟩
 |cons q ps ih=>
  intro S w
  obtain⟨w1,t1⟩:=w.addP n q
  obtain⟨g0,g1,g2,g3,g4,g5,g6,g7,g8⟩:=ih (addP n S q) w1
  refine⟨g0,λm=>?_,g2,g3,g4,g5,λm=>?_,λp m=>?_,λp=>?_⟩
  ·rw[dZ,g1,t1]
   by_cases c:m=n<;>simp[c];rw[bK,bu 1]
  ·rw[dZ,g6]
   have:m∈(addP n S q).nodes↔m∈S.nodes∨m=q:=by
    show m∈(fJ S q).nodes↔_
    unfold fJ
    simp only[]
    split
    ·rename_i h
     constructor
     ·exact .inl
     ·rintro(h'|rfl)
      ·exact h'
      ·exact h
    ·simp
   rw[this,am,or_assoc]
  ·rw[dZ,g7]
   have:m∈(addP n S q).succ p↔m∈S.succ p∨(m=n∧p=q):=by
    show m∈setF S.succ q (S.succ q++[n]) p↔_
    unfold setF
    split
    ·rename_i h;subst h;simp
    ·rename_i h;simp[h]
   rw[this,am]
   constructor
   ·rintro((h|⟨h1,h2⟩)|⟨h1,h2⟩)
    ·exact .inl h
    ·exact .inr ⟨h1,.inl h2⟩
    ·exact .inr ⟨h1,.inr h2⟩
   ·rintro(h|⟨h1,h2|h2⟩)
    ·exact .inl (.inl h)
    ·exact .inl (.inr ⟨h1,h2⟩)
    ·exact .inr ⟨h1,h2⟩
  ·rw[dZ]
   have h1:=g8 p
   have h2:=(vx n S q).2 p
   exact ac h1 (ac (bI h2 _) (ax (ba _ 1 _)))
structure GW(S:SS)(M:Int→Prop)(L:Int→Int→Prop)(len:Nat):Prop where
 w:WS S
 np:∀n,S.np n=uT S n
 rd:S.ready=none
 ps:S.pass=0
 fi:S.fin=0
 mem:∀m,m∈S.nodes↔M m
 edg:∀p n,n∈S.succ p↔L p n
 sz:∀p,(S.succ p).length≤len
theorem GW.nil:GW ⟨[],λz=>0,λz=>[],none,0,0⟩ (λz=>False) (λz z=>False) 0:=
 ⟨⟨by simp,λz z=>rfl⟩,λn=>by simp[uT],rfl,rfl,rfl,by simp,by simp,by simp⟩
theorem GW.add{S:SS}{M:Int→Prop}{L:Int→Int→Prop}{len:Nat}(g:GW S M L len)(n:Int)(ps:List Int):GW (addS S n ps) (λm=>M m∨m=n∨m∈ps) (λp m=>L p m∨(m=n∧p∈ps)) (len+ps.length):=by
 obtain⟨w1,t1⟩:=g.w.get n
 have w2:WS {fJ S n with np:=setF S.np n (S.np n+ps.length)}:=⟨w1.nd,w1.df⟩
 obtain⟨g0,g1,g2,g3,g4,g5,g6,g7,g8⟩:=y9 n ps _ w2
 refine⟨g0,λm=>?_,g3.trans g.rd,g4.trans g.ps,g5.trans g.fi,λm=>?_,λp m=>?_,λp=>?_⟩
 ·show(iU (addP n) _ ps).np m=_
  rw[g2]
  show setF S.np n (S.np n+ps.length) m=_
  unfold addS
  rw[g1]
  have:uT {fJ S n with np:=setF S.np n (S.np n+ps.length)} m=uT S m:=t1 m
  rw[this]
  unfold setF
  by_cases c:m=n
  ·subst c;simp[g.np]
  ·simp[c,g.np]
 ·unfold addS
  rw[g6]
  show m∈(fJ S n).nodes∨_↔_
  rw[←g.mem m]
  unfold fJ
  simp only[]
  split
  ·rename_i h
   constructor
   ·rintro(h'|h')
    ·exact .inl h'
    ·exact .inr (.inr h')
   ·rintro(h'|rfl|h')
    ·exact .inl h'
    ·exact .inl h
    ·exact .inr h'
  ·simp[or_assoc]
 ·unfold addS
  rw[g7]
  show m∈S.succ p∨_↔_
  rw[g.edg]
 ·have:=g8 p
  have h2:(S.succ p).length≤len:=g.sz p
  unfold addS
  exact ac this (bI h2 _)
theorem Ac(S:SS)(n:Int):uT S n=inc S.nodes S.succ [] n:=by
 unfold uT inc
 rw[cm.mpr (by simp)]
noncomputable def sL(r:Nat):List Nat:=aB r 32++[9]
noncomputable def encR(rows:List Nat):List Nat:=rows.flatMap sL
noncomputable abbrev Ln:=List Nat×Nat
noncomputable def jl(p:Ln):Prop:=p.1.length≤3∧(∀r∈p.1,r≤4)∧p.2≤4
noncomputable def hd(p:Ln):List Nat:=encR p.1++aB p.2 32
noncomputable def tx(p:Ln):List Nat:=hd p++[120,32,9]
theorem s8:∀(k:Nat)(l rows:List Nat)(b:Nat),parse (aB k 32++l) rows b=parse l rows (b+k):=by
 intro n_
 induction n_ with
 |zero=>
  intro l rows b
  simp
 |succ k ih=>
  intro l rows b
  rw[cV,dq,parse,if_pos rfl,ih l rows (b+1)]
  rw[ba];rfl
theorem uB:∀(rs l rows:List Nat),parse (encR rs++l) rows 0=parse l (rows++rs) 0:=by
 intro xs_
 induction xs_ with
 |nil=>
  intro l rows
  simp[encR]
 |cons r rs ih=>
  intro l rows
  have:encR (r::rs)++l=aB r 32++(9::(encR rs++l)):=by simp[encR,sL]
  rw[this,s8,parse,if_neg (by decide),if_pos rfl,ih l]
  simp
theorem yL(p:Ln):parse (tx p) [] 0=p:=by
 unfold tx hd
 rw[b7,uB,s8,parse,if_neg (by decide),if_neg (by decide)];simp
theorem pF:∀rows:List Nat,(encR rows).length=(rows.map (·+1)).sum:=by
 intro xs_
 induction xs_ with
 |nil=>
  exact rfl
 |cons r rows ih=>
  simp[encR];have:=ih;simp[encR]at this;simp[sL,this]
theorem wz(rows:List Nat)(r:Nat):encR (rows++[r])=encR rows++aB r 32++[9]:=by simp[encR,sL]
theorem v5{B:Nat}:∀(xs:List Nat),(∀x∈xs,x≤B)→xs.sum≤xs.length*B:=by
 intro xs_
 induction xs_ with
 |nil=>
  intro _
  simp
 |cons x xs ih=>
  intro h
  rw[bG,aD,mr,pY,bu]
  exact bN (ih λy hy=>h y (aq _ hy)) (h x ak)
theorem mU{rows:List Nat}(h:rows.length≤3)(h4:∀r∈rows,r≤4):(rows.map (·+1)).sum≤15:=by
 have:=v5 (B:=5) (rows.map (·+1)) λx hx=>by
  obtain⟨r,hr,rfl⟩:=ay.mp hx
  exact aI (h4 r hr)
 rw[aj]at this;exact ac this (Nat.mul_le_mul_right 5 h)
theorem vM{p:Ln}(h:jl p):nOf p.1 p.2≤10000:=ac (bN (mU h.1 h.2.1) h.2.2) (by decide)
theorem xY{p:Ln}(h:jl p):(hd p).length≤19:=by
 rw[hd,aJ,eU,pF];exact bN (mU h.1 h.2.1) h.2.2
theorem t3{p:Ln}(h:jl p):(tx p).length≤22:=by
 rw[tx,aJ];exact bI (xY h) 3
theorem encR_mem{rows:List Nat}{c:Nat}(h:c∈encR rows):c=32∨c=9:=by
 obtain⟨r,_,hc⟩:=dM.mp h
 rcases aL.mp hc with h|h
 ·exact .inl (ni.mp h).2
 ·simp at h;exact .inr h
theorem hd_mem{p:Ln}{c:Nat}(h:c∈hd p):c=32∨c=9:=by
 rcases aL.mp h with h|h
 ·exact encR_mem h
 ·exact .inl (ni.mp h).2
theorem tx_ascii{p:Ln}:∀c∈tx p,c<128:=by
 intro c h
 rcases aL.mp h with h|h
 ·rcases hd_mem h with rfl|rfl<;>decide
 ·simp at h;rcases h with rfl|rfl|rfl<;>decide
theorem fm(a:Int){b:Int}(h:0<b):0≤a.fmod b∧a.fmod b<b:=⟨Int.fmod_nonneg_of_pos _ h,Int.fmod_lt_of_pos _ h⟩
noncomputable def dg(n b:Int):Nat:=((n.fmod 10).fmod b).toNat
theorem uY(n:Int){b:Int}(h:0<b):(n.fmod 10).fmod b=(dg n b:Nat):=by
 exact A6 (fm (n.fmod 10) h).1
theorem Be(n:Int){b:Int}(h:0<b):(dg n b:Int)<b:=by rw[←uY n h];exact(fm _ h).2
theorem dg5(n:Int):dg n 5≤4:=cM (dm.mp (Be n (b:=5) (by decide)))
theorem F2(n:Int):dg n 4≤3:=cM (dm.mp (Be n (b:=4) (by decide)))
theorem tz{α:Type}(k:Nat)(x:α):(aB k [x]).flatten=aB k x:=by
 induction k with
 |zero=>rfl
 |succ k ih=>simp[cV,ih]
theorem DM{Q:V→Hp→Prop}{X:XA}{loc:bk}{hp:Hp}{n:Int}{s:List Nat}(e44:loc 44=some (.int n))(e45:loc 45=some (.str s))(hs:s.length≤100)(q:Q (.str (s++aB (dg n 5) 32)) hp):
 aZ ef (ai 45) (aZ kG (aQ (.str [32])) (aZ oz (aZ oz (ai 44) (aQ (.int 10))) (aQ (.int 5)))) Q X loc hp:=by
 simp only[d1,be,rd e44,rd e45,ek,pt,uY n (b:=5) (by decide),vn,c7,tz,rR,eU,aD,dY]
 exact⟨by decide,by decide,zR _ (by decide),sG (dg5 n) (by decide),lim4 (ac (ax (pY _)) (ac (dg5 n) (by decide))),lim4 (ac (bN hs (dg5 n)) (by decide)),q⟩
theorem vZ{Q:Fw→bk→Hp→Prop}{v:V}{hp0 hp:Hp}(hv:∀h h',same v h h'):∀(js:List Nat)(n:Int)(rows:List Nat)(loc:bk),rows.length+js.length≤3→(∀r∈rows,r≤4)→loc 44=some (.int n)→loc 45=some (.str (encR rows))→
 (∀loc' n' rows',rows'.length≤3→(∀r∈rows',r≤4)→loc' 44=some (.int n')→loc' 45=some (.str (encR rows'))→Q .next loc' hp)→eK v hp0 (aG 47) kD Q (js.map λj=>.int (j:Nat)) loc hp:=by
 intro xs_
 induction xs_ with
 |nil=>
  intro n rows loc h1 h2 e44 e45 q
  exact q loc n rows (by simpa using h1) h2 e44 e45
 |cons j js ih=>
  intro n rows loc h1 h2 e44 e45 q
  simp only[aD]at h1
  refine gv ?_
  unfold kD
  have hs:=ac (ax (pF rows)) (mU (ac (aM _ _) h1) h2)
  have f44:upd loc 47 (.int (j:Nat)) 44=some (.int n):=(upd_ne (by decide)).trans e44
  refine sq ?_
  simp only[eY,d1,be,rd f44,ek,yc,iB]
  refine⟨⟨by decide,.inr (by decide)⟩,nsq ?_⟩
  refine DM (n:=n.fdiv 10) us ((upd_ne (by decide)).trans ((upd_ne (by decide)).trans e45)) (ac hs (by decide)) ?_
  simp only[ek,rR,iB]
  refine⟨by rw[aJ,eU];exact lim4 (ac (aI (bN hs (dg5 _))) (by decide)),nx ?_⟩
  refine⟨hv _ _,ih (n.fdiv 10) (rows++[dg (n.fdiv 10) 5]) _ (jI h1) (λr hr=>?_) ((upd_ne (by decide)).trans us) (by rw[us,wz]) q⟩
  rcases aL.mp hr with hr|hr
  ·exact h2 r hr
  ·simp at hr;exact hr▸dg5 _
theorem uM{Q:V→Hp→Prop}{X:XA}{hp:Hp}{n:Int}(q:∀p,jl p→Q (.str (tx p)) hp):jt [.int n] Q X hp:=by
 refine⟨[(44,.int n)],by simp[bdPos],?_⟩
 unfold pP
 refine sq ?_
 simp only[eY,ek,iB]
 refine nsq ?_
 simp only[eY,d1,be,rd_upd,rd_loc,ek,pt,uY n (b:=4) (by decide),iB]
 simp only[show(44:Nat)≠45 by decide,if_false,if_true]
 refine⟨by decide,by decide,nsq ?_⟩
 simp only[rA,dS,cD,dz,be,rd_upd,if_true,nV]
 refine⟨_,fK (by decide) (sG (F2 n) (by decide)),?_⟩
 rw[i9]
 refine vZ (by simp) _ n [] _ (by simp;exact F2 n) (by simp) (by simp[upd,locOf_cons]) (by simp[upd,encR]) λloc' n' rows' r1 r2 f44 f45=>nsq ?_
 have hs:=ac (ax (pF rows')) (mU r1 r2)
 simp only[rq,d1,be,rd f44,rd f45,ek,yc,pt,uY (n'.fdiv 10) (b:=5) (by decide),vn,c7,tz,rR,aJ,eU,aD,dY]
 refine⟨⟨by decide,.inr (by decide)⟩,by decide,by decide,zR _ (by decide),sG (dg5 _) (by decide),lim4 (ac (ax (pY _)) (ac (dg5 _) (by decide))),lim4 (ac (bN hs (dg5 _)) (by decide)),lim4 (ac (bI (bN hs (dg5 _)) 3) (by decide)),xg ?_⟩
 exact q (rows',dg (n'.fdiv 10) 5) ⟨r1,r2,dg5 _⟩
noncomputable def colF(t:Nat):Nat→List Nat→Nat
 |c,[]=>c
 |c,x::l=>colF t (if x=32 then c+1 else c - c % t+t) l
theorem pH(t:Nat):∀(l m:List Nat)(c:Nat),colF t c (l++m)=colF t (colF t c l) m:=by
 intro xs_
 induction xs_ with
 |nil=>
  intro m c
  exact rfl
 |cons x l ih=>
  intro m c
  exact ih m _
theorem colF_sp(t:Nat):∀(k c:Nat),colF t c (aB k 32)=c+k:=by
 intro n_
 induction n_ with
 |zero=>
  intro c
  exact rfl
 |succ k ih=>
  intro c
  rw[cV,colF,if_pos rfl,ih (c+1)];exact ba c 1 k
theorem zl{t:Nat}(ht:0<t)(r m:Nat):colF t (t*m) (sL r)=t*(m+(r / t+1)):=by
 unfold sL
 rw[pH,colF_sp,colF,if_neg (by decide),colF,Nat.mul_add_mod,vT]
 have e:t*m+r - r % t=t*m+t*(r / t):=wO (by rw[bK,Nat.div_add_mod])
 rw[vT,Ek,←bK,e]
theorem wG{t:Nat}(ht:0<t):∀(rows:List Nat)(m:Nat),colF t (t*m) (encR rows)=t*(m+((rows.map λr=>r / t).sum+rows.length)):=by
 intro xs_
 induction xs_ with
 |nil=>
  intro m
  simp[encR,colF]
 |cons r rows ih=>
  intro m
  have e:encR (r::rows)=sL r++encR rows:=by simp[encR]
  rw[e,pH,zl ht,ih]
  congr 1
  rw[ar,bG,aD,bK,wR,bu 1 rows.length]
noncomputable def cv(p:Ln)(t:Nat):Nat:=lv p.1 p.2 t
theorem AU{t:Nat}(ht:0<t)(p:Ln):colF t 0 (hd p)=cv p t:=by
 unfold hd cv lv
 rw[pH,colF_sp]
 have:=wG ht p.1 0
 rw[DY]at this
 rw[this,bH];exact bu _ _
theorem sZ(p:Ln):fM 120 (tx p)=[hd p,[32,9]]:=by
 have h:=jr 120 [[32,9]] (hd p) (λh=>by rcases hd_mem h with h|h<;>cases h) (by simp)
 simpa[tx]using h
theorem col_loop{Q:Fw→bk→Hp→Prop}{v:V}{hp0 hp:Hp}{t:Nat}(ht:0<t)(hv:∀h h',same v h h'):∀(l:List Nat)(c:Nat)(loc:bk),(∀x∈l,x<128)→loc 48=some (.int (t:Nat))→loc 49=some (.int (c:Nat))→
 (∀loc',loc' 49=some (.int (colF t c l:Nat))→Q .next loc' hp)→eK v hp0 (aG 50) jy Q (l.map λx=>.str [x]) loc hp:=by
 intro xs_
 induction xs_ with
 |nil=>
  intro c loc _ e48 e49 q
  exact q loc e49
 |cons x l ih=>
  intro c loc hl e48 e49 q
  refine gv ?_
  unfold jy
  have f48:upd loc 50 (.str [x]) 48=some (.int (t:Nat)):=(upd_ne (by decide)).trans e48
  have f49:upd loc 50 (.str [x]) 49=some (.int (c:Nat)):=(upd_ne (by decide)).trans e49
  have f50:upd loc 50 (.str [x]) 50=some (.str [x]):=us
  have hfm:(c:Int).fmod (t:Int)=((c % t:Nat):Int):=by
   rw[Int.fmod_eq_emod_of_nonneg _ (aN _)];rfl
  have hmod:=Nat.mod_le c t
  have e1:((c:Int) - ((c % t:Nat):Int)+(t:Int))=((c - c % t+t:Nat):Int):=congrArg (·+(t:Int)) (BN hmod)
  refine sq ?_
  simp only[eY,Cx,jU,be,rd f50,ek,x6 (hl x (by simp)) (show 32<128 by decide),jb,d1,rd f49,rd f48,nF,pt,hfm,pv,e1,iB]
  by_cases hx:x=32
  ·refine iT (by simpa using hx) ?_
   refine nx (⟨hv _ _,ih (c+1) _ (λy hy=>hl y (by simp[hy])) ((upd_ne (by decide)).trans f48) us λloc' h=>q loc' ?_⟩)
   rw[h,colF,if_pos hx]
  ·refine iF (by simpa using hx) ?_
   refine⟨λz=>e9 ht (gE z),nx (⟨hv _ _,ih (c - c % t+t) _ (λy hy=>hl y (by simp[hy])) ((upd_ne (by decide)).trans f48) us λloc' h=>q loc' ?_⟩)⟩
   rw[h,colF,if_neg hx]
theorem sf{Q:V→Hp→Prop}{X:XA}{hp:Hp}{p:Ln}{t:Nat}(hp':jl p)(ht:0<t)(q:Q (.int (cv p t:Nat)) hp):ij [.str (tx p),.int (t:Nat)] Q X hp:=by
 refine⟨[(45,.str (tx p)),(48,.int (t:Nat))],rfl,?_⟩
 have hl:lim=1000000:=rfl
 have h1:=t3 hp'
 have ha:(hd p).all (λx=>decide (x<128))=true:=bY.mpr λx hx=>by rcases hd_mem hx with rfl|rfl<;>decide
 unfold m6
 refine sq ?_
 simp only[eY,ek,iB]
 refine nsq ?_
 simp only[rA,d1,iH,be,rd_upd,rd_loc,cD,dz,ek]
 simp only[show(45:Nat)≠49 by decide,if_false,if_true]
 refine⟨⟨_,rfl⟩,tx p,120,rfl,lim4 (ac h1 (by decide)),?_⟩
 simp only[sZ,ar,dR,j4]
 refine⟨aV rfl,.str (hd p),rfl,(hd p).map λx=>.str [x],if_pos ha,?_⟩
 refine col_loop ht (by simp) (hd p) 0 _ (λx hx=>by rcases hd_mem hx with rfl|rfl<;>decide) rfl rfl λloc' h=>nsq ?_
 simp only[rq,be,rd h]
 rw[AU ht]
 exact xg q
noncomputable def wOf(p:Ln):V:=wObj (tx p) p.1 p.2
theorem vO{p:Ln}{j:Nat}{hp:Hp}(hj:j=42∨j=40∨j=91∨j=93):cY cW j hp (wOf p):=by
 refine⟨rfl,?_⟩
 rcases hj with rfl|rfl|rfl|rfl<;>rfl
theorem CA{Q:V→Hp→Prop}{X:XA}{hp:Hp}{p:Ln}(h:jl p)(q:∀hp',Grow hp hp'→Q (wOf p) hp'):pz cW dU [.str (tx p)] Q X hp:=by
 have hl:=t3 h
 refine Fc tx_ascii (ac hl (by decide)) λhp' g=>?_
 rw[yL];exact q hp' g
theorem lF{α:Type}(f:Nat→Option α)(i:Nat)(a b:α):upd (upd f i a) i b=upd f i b:=by
 funext j;unfold upd;split<;>rfl
noncomputable def topP(p q:Ln):Nat:=topN p.1 p.2 q.1 q.2
noncomputable def pd(p q:Ln)(ts:List Nat):List Nat:=ts.filter λt=>decide (cv q t≤cv p t)
noncomputable def j3(p q:Ln)(t:Nat):V:=.tup [.int (t:Nat),.int (cv p t:Nat),.int (cv q t:Nat)]
theorem yP{Q:Fw→bk→Hp→Prop}{v:V}{hp0 hp:Hp}{p q:Ln}{l:Addr}(hv:∀h h',same v h h')(h1:jl p)(h2:jl q):∀(js done:List Nat)(loc:bk),(∀j∈js,0<j)→done.length+js.length≤1000→loc 0=some (wOf p)→loc 39=some (wOf q)→loc 43=some (.ref l)→
 (∀loc',loc' 43=some (.ref l)→Q .next loc' (upd hp l (.lst ((done++pd p q js).map (j3 p q)))))→eK v hp0 (aG 41) cO Q (js.map λj=>.int (j:Nat)) loc (upd hp l (.lst (done.map (j3 p q)))):=by
 intro xs_
 induction xs_ with
 |nil=>
  intro done loc _ _ e0 e39 e43 q'
  have:=q' loc e43
  exact(show Q .next loc _ by simpa[pd]using this)
 |cons j js ih=>
  intro done loc hj hz e0 e39 e43 q'
  refine gv ?_
  have hl:lim=1000000:=rfl
  simp only[aD]at hz
  have f0:upd loc 41 (.int (j:Nat)) 0=some (wOf p):=(upd_ne (by decide)).trans e0
  have f39:upd loc 41 (.int (j:Nat)) 39=some (wOf q):=(upd_ne (by decide)).trans e39
  have f43:upd loc 41 (.int (j:Nat)) 43=some (.ref l):=(upd_ne (by decide)).trans e43
  have f41:upd loc 41 (.int (j:Nat)) 41=some (.int (j:Nat)):=us
  have hj0:=hj j (by simp)
  have c1:∀{Q:V→Hp→Prop}{X:XA}{hp:Hp},Q (.int (cv p j:Nat)) hp→aY [wOf p,.int (j:Nat)] Q X hp:=λh=>oW hj0 (vM h1) h
  have c2:∀{Q:V→Hp→Prop}{X:XA}{hp:Hp},Q (.int (cv q j:Nat)) hp→aY [wOf q,.int (j:Nat)] Q X hp:=λh=>oW hj0 (vM h2) h
  unfold cO
  refine sq ?_
  simp only[pg,jU,iH,be,rd f0,rd f39,rd f41,cD,dz]
  refine⟨vO (.inl rfl),c1 ⟨vO (.inl rfl),c2 ?_⟩⟩
  repeat refine xb ?_
  have next:∀done',done'.length+js.length≤1000→done'++pd p q js=done++pd p q (j::js)→same v hp0 (upd hp l (.lst (done'.map (j3 p q))))∧eK v hp0 (aG 41) cO Q (js.map λj=>.int (j:Nat)) (upd loc 41 (.int (j:Nat))) (upd hp l (.lst (done'.map (j3 p q)))):=λdone' hz' e=>
   ⟨hv _ _,ih done' _ (λk hk=>hj k (by simp[hk])) hz' f0 f39 f43 λloc' h=>by rw[e];exact q' loc' h⟩
  by_cases c:cv q j≤cv p j
  ·refine iT (by simpa using c) ?_
   refine sq ?_
   simp only[uf,iH,be,rd f43,rd f0,rd f39,rd f41,cD,dz,ya]
   refine⟨isLst_ref us,vO (.inl rfl),c1 ⟨vO (.inl rfl),c2 ⟨aV rfl,gM us (by rw[aj];exact lim4 (ac (aM _ _) (ac hz (by decide)))) (nx (nx ?_))⟩⟩⟩
   have e:(done.map (j3 p q)++[V.tup [.int (j:Nat),.int (cv p j:Nat),.int (cv q j:Nat)]])=(done++[j]).map (j3 p q):=by rw[dG];rfl
   rw[lF,e]
   exact next (done++[j]) (jI hz) (by simp[pd,c])
  ·refine iF (by simpa using c) ?_
   exact nx (next done (cw hz) (by simp[pd,c]))
theorem oN{p q:Ln}(h1:jl p)(h2:jl q):topP p q≤5:=by
 have cl5:∀rows:List Nat,(∀r∈rows,r≤4)→cl rows≤5:=λrows=>by
  induction rows with
  |nil=>intro _;simp[cl]
  |cons r rows ih=>intro h;exact ig.mpr ⟨aI (h r ak),ih λx hx=>h x (aq _ hx)⟩
 have a:=cl5 p.1 h1.2.1;have b:=cl5 q.1 h2.2.1
 exact aI (ig.mpr ⟨ig.mpr ⟨mB a,h1.2.2⟩,ig.mpr ⟨mB b,h2.2.2⟩⟩)
theorem DP{Q:V→Hp→Prop}{X:XA}{hp:Hp}{p q:Ln}(h1:jl p)(h2:jl q)(q':Q (.lst ((pd p q (bn 1 (topP p q))).map (j3 p q))) hp):cU [wOf p,wOf q] Q X hp:=by
 refine⟨[(0,wOf p),(39,wOf q)],rfl,?_⟩
 have ht:=oN h1 h2
 have o0:locOf [(0,wOf p),(39,wOf q)] 0=some (wOf p):=rfl
 have o39:locOf [(0,wOf p),(39,wOf q)] 39=some (wOf q):=rfl
 generalize locOf [(0,wOf p),(39,wOf q)]=lo at*
 unfold fu
 refine sq (cl_top (l1:=tx p) (l2:=tx q) (vM h1) (vM h2) o0 o39 (nsq ?_))
 simp only[eY,yb,dz,iB]
 refine⟨bx _,λl hl=>nsq ?_⟩
 have f31:upd (upd lo 31 (.int (topN p.1 p.2 q.1 q.2:Nat))) 43 (.ref l) 31=some (.int (topP p q:Nat)):=(upd_ne (by decide)).trans us
 simp only[rA,dS,cD,dz,ek,d1,be,rd f31,nF,lL]
 refine⟨_,fK (by decide) (sG (aI ht) (by decide)),?_⟩
 rw[show(1:Int)=((1:Nat):Int)from rfl,show((topP p q:Nat):Int)+((1:Nat):Int)=((topP p q+1:Nat):Int)from rfl,lu]
 refine yP (hp:=hp) (p:=p) (q:=q) (l:=l) (by simp) h1 h2 _ [] _ (λj hj=>(bc.mp hj).1) (by simp;exact ac ht (by decide)) ((upd_ne (by decide)).trans ((upd_ne (by decide)).trans o0)) ((upd_ne (by decide)).trans ((upd_ne (by decide)).trans o39)) us λloc' h=>nsq ?_
 repeat refine rv h ?_
 refine⟨l,_,h,us,xg ?_⟩
 rw[oV hl]
 simpa using q'
theorem yE(b:Nat):fM 9 (aB b 32)=[aB b 32]:=by
 have:=jr 9 [] (aB b 32) (λh=>by have:=(ni.mp h).2;cases this) (by simp)
 simpa using this
theorem split_row(m:List Nat):∀r:Nat,fM 9 (aB r 32++9::m)=aB r 32::fM 9 m:=by
 intro n_
 induction n_ with
 |zero=>
  show fM 9 (9::m)=_;rw[fM,if_pos rfl];rfl
 |succ r ih=>
  rw[cV,dq,fM,if_neg (by decide),ih]
theorem yF(b:Nat):∀rows:List Nat,fM 9 (encR rows++aB b 32)=(rows++[b]).map λr=>aB r 32:=by
 intro xs_
 induction xs_ with
 |nil=>
  exact yE b
 |cons r rows ih=>
  have e:encR (r::rows)++aB b 32=aB r 32++9::(encR rows++aB b 32):=by simp[encR,sL]
  rw[e,split_row,ih];rfl
theorem vr:∀rows:List Nat,rows≠ []→∃r∈rows,cl rows=r+1
 | [],h=>absurd rfl h
 | [r],_=>⟨r,by simp,by simp[cl]⟩
 |r::s::rows,_=>by
  obtain⟨x,hx,e⟩:=vr (s::rows) (by simp)
  by_cases c:r+1≤x+1
  ·exact⟨x,by simp[am.mp hx],by rw[cl,e];exact i5 c⟩
  ·exact⟨r,by simp,by rw[cl,e];exact jw (eH c)⟩
noncomputable def kY(p:Ln):List Int:=(p.1++[p.2]).map λ(r:Nat)=>(r:Int)
theorem tg(p:Ln):((longN p.1 p.2:Nat):Int)∈kY p∧∀a∈kY p,a≤(longN p.1 p.2:Nat):=by
 constructor
 ·unfold longN kY
  by_cases c:p.1=[]
  ·rw[c];simp[cl]
  ·obtain⟨r,hr,e⟩:=vr p.1 c
   rw[e,Nat.add_sub_cancel]
   by_cases c2:r≤p.2
   ·rw[i5 c2];exact ay.mpr ⟨p.2,by simp,rfl⟩
   ·rw[jw (eH c2)];exact ay.mpr ⟨r,by simp[hr],rfl⟩
 ·intro a ha
  obtain⟨r,hr,rfl⟩:=ay.mp ha
  unfold longN
  rcases aL.mp hr with hr|hr
  ·exact bC.mpr (ac (wP (cl_le p.1 r hr)) (jx _ _))
  ·rw[hV.mp hr];exact bC.mpr (fG _ _)
theorem top_max{p q:Ln}{M:Int}(h1:M∈kY p++kY q)(h2:∀a∈kY p++kY q,a≤M):M+1=(topP p q:Nat):=by
 obtain⟨a1,a2⟩:=tg p
 obtain⟨b1,b2⟩:=tg q
 have c1:=h2 _ (cz _ a1)
 have c2:=h2 _ (eS _ b1)
 unfold topP topN
 rcases aL.mp h1 with h|h
 ·cases qk (a2 _ h) c1
  exact congrArg (λz:Nat=>((z+1:Nat):Int)) (jw (bC.mp c2)).symm
 ·cases qk (b2 _ h) c2
  exact congrArg (λz:Nat=>((z+1:Nat):Int)) (i5 (bC.mp c1)).symm
theorem Ea{fr:List Nat}{src:DE}{t:DA}{f:DT}{inner:CD}{QE:V→Hp→Prop}{XE:XA}{loc:bk}{hp:Hp}:ui fr src t f inner QE XE loc hp=src (zQ λts hp0=>lQ .none hp0 t f inner (λacc hp'=>QE (.lst acc) hp') ts [] (keepL fr loc) hp0) XE loc hp:=rfl
noncomputable def cols(p:Ln):List V:=(bn 1 5).map λt=>.int (cv p t:Nat)
theorem tm{K:List V→Hp→Prop}{acc:List V}{loc:bk}{hp:Hp}{p:Ln}(hp':jl p)(hz:acc.length≤100)(e45:loc 45=some (.str (tx p)))(q:K (acc++(kY p).map .int) hp):
 qe (bX isStr lm (aZ bw (bX isStr lm (ai 45) (av (aQ (.str [120])) aF)) (aQ (.int 0))) (av (aQ (.str [9])) aF)) (aG 47) fNone (dJ (aT d9 (av (ai 47) aF))) K acc loc hp:=by
 have hl:lim=1000000:=rfl
 have h1:=t3 hp'
 have h2:=xY hp'
 have h3:=hp'.1
 show bX isStr lm (aZ bw (bX isStr lm (ai 45) (av (aQ (.str [120])) aF)) (aQ (.int 0))) (av (aQ (.str [9])) aF) _ _ _ _
 simp only[iH,d1,be,rd e45,cD,dz,ek]
 refine⟨⟨_,rfl⟩,tx p,120,rfl,lim4 (ac h1 (by decide)),?_⟩
 simp only[sZ,ar,dR,j4]
 refine⟨aV rfl,.str (hd p),rfl,⟨_,rfl⟩,hd p,9,rfl,lim4 (ac h2 (by decide)),?_⟩
 refine⟨_,rfl,?_⟩
 unfold hd
 rw[yF,bF]
 refine cLp_pure (λr=>V.str (aB r 32)) (λz=>true) (λr=>V.int (r:Nat)) (p.1++[p.2]) acc hp (by rw[aJ];exact lim4 (ac (bN hz (aI h3)) (by decide))) trivial (λr hr acc' ha R hR=>?_) ?_
 ·have hr4:r≤4:=by
   rcases aL.mp hr with hr|hr
   ·exact hp'.2.1 r hr
   ·simp at hr;rw[hr];exact hp'.2.2
  simp only[iB,rQ,if_true,rC,dS,cD,dz,be,rd_upd,AO,eU]
  exact⟨ha,lim4 (ac hr4 (by decide)),hR⟩
 ·rw[cm.mpr (λz z=>rfl)]
  have e:(kY p).map V.int=(p.1++[p.2]).map λr=>V.int (r:Nat):=by simp[kY]
  rw[←e];exact q
theorem yv(p q:Ln)(n:Nat)(hn:n≤5):zip3 (dp 1 ((n:Int)+1)) (cols p) (cols q)=(bn 1 n).map (j3 p q):=by
 have e:dp 1 ((n:Int)+1)=(bn 1 n).map λt=>V.int (t:Nat):=by
  have:=lu 1 (n+1)
  simpa using this
 rw[e]
 unfold zip3 cols
 rcases n with _|_|_|_|_|_|n
 ·rfl
 ·rfl
 ·rfl
 ·rfl
 ·rfl
 ·rfl
 ·exact absurd (ac (cP 6 n) hn) (by decide)
theorem w_item{R:List V→Hp→Prop}{acc:List V}{loc:bk}{hp:Hp}{p q:Ln}{t:Nat}(ha:acc.length≤lim)(hR:R (if decide (cv q t≤cv p t)then acc++[j3 p q t]else acc) hp):
 lS ([48,58,59].map aG) (j3 p q t) (λloc1 hp2=>cG (iZ λa b=>decide (b≤a)) (ai 58) (ai 59) (λb hp3=>if b then dJ (mh (av (ai 48) (av (ai 58) (av (ai 59) aF)))) R acc loc1 hp3 else R acc hp3) noXA loc1 hp2) o8 loc hp:=by
 refine xt ?_
 have g48:upd (upd (upd loc 48 (.int (t:Nat))) 58 (.int (cv p t:Nat))) 59 (.int (cv q t:Nat)) 48=some (.int (t:Nat)):=(upd_ne (by decide)).trans ((upd_ne (by decide)).trans us)
 have g58:upd (upd (upd loc 48 (.int (t:Nat))) 58 (.int (cv p t:Nat))) 59 (.int (cv q t:Nat)) 58=some (.int (cv p t:Nat)):=(upd_ne (by decide)).trans us
 refine rv g58 (rv us (xb ?_))
 by_cases c:cv q t≤cv p t
 ·rw[if_pos (decide_eq_true c)]at hR
  exact iT (decide_eq_true (bC.mpr c)) ⟨ha,rv g48 (rv g58 (rv us ⟨aV rfl,hR⟩))⟩
 ·rw[if_neg (by simpa using c)]at hR
  exact iF (by simpa using c) hR
theorem qs{Q:V→Hp→Prop}{X:XA}{hp:Hp}{p q:Ln}(h1:jl p)(h2:jl q)(q':Q (.lst ((pd p q (bn 1 (topP p q))).map (j3 p q))) hp):iK [.lst (cols p),.lst (cols q),.lst [.str (tx p),.str (tx q)]] Q X hp:=by
 refine⟨[(62,.lst (cols p)),(63,.lst (cols q)),(64,.lst [.str (tx p),.str (tx q)])],rfl,?_⟩
 have ht:=oN h1 h2
 have l1:(kY p).length≤4:=by rw[kY,aj,aJ];exact aI h1.1
 have l2:(kY q).length≤4:=by rw[kY,aj,aJ];exact aI h2.1
 have o62:locOf [(62,V.lst (cols p)),(63,.lst (cols q)),(64,.lst [.str (tx p),.str (tx q)])] 62=some (.lst (cols p)):=rfl
 have o63:locOf [(62,V.lst (cols p)),(63,.lst (cols q)),(64,.lst [.str (tx p),.str (tx q)])] 63=some (.lst (cols q)):=rfl
 have o64:locOf [(62,V.lst (cols p)),(63,.lst (cols q)),(64,.lst [.str (tx p),.str (tx q)])] 64=some (.lst [.str (tx p),.str (tx q)]):=rfl
 generalize locOf [(62,V.lst (cols p)),(63,.lst (cols q)),(64,.lst [.str (tx p),.str (tx q)])]=lo at*
 unfold ma
 refine sq (rv o64 ⟨_,rfl,gv (zM ?_)⟩)
 refine tm h1 (bx _) us ⟨trivial,gv (zM ?_)⟩
 refine tm h2 (by simp;exact ac l1 (by decide)) us ⟨trivial,?_⟩
 rw[a8,←dG]
 refine⟨_,_,kY p++kY q,rfl,rfl,ku _,by simp[kY],λM hM hle=>?_⟩
 have hM2:=top_max hM hle
 refine gv (nsq ?_)
 have f62:upd lo 65 (.int M) 62=some (.lst (cols p)):=(upd_ne (by decide)).trans o62
 have f63:upd lo 65 (.int M) 63=some (.lst (cols q)):=(upd_ne (by decide)).trans o63
 have e2:M+2=((topP p q:Nat):Int)+1:=by rw[←hM2,tI];rfl
 have hsz:(((topP p q:Nat):Int)+1 - 1).toNat=topP p q:=by rw[j1];rfl
 refine rv us (cn (ES (nl (Gt (rv f62 (rv f63 (nl ?_)))))))
 rw[e2]
 refine⟨_,_,_,_,rfl,rng_small (by decide) (sG (aI ht) (by decide)) (sF (aN _)),by rw[hsz];simpa[cols]using ht,by rw[hsz];simpa[cols]using ht,λz hp' Z=>gv (nsq (rv us ⟨z,hp,_,rfl,yv p q _ ht▸Z,?_⟩))⟩
 exact cLp_pure (j3 p q) (λt=>decide (cv q t≤cv p t)) (j3 p q) (bn 1 (topP p q)) [] hp (by simpa using lim4 (ac ht (by decide))) trivial (λt y acc ha R hR=>w_item ha hR) (xg q')
noncomputable def Lf(top:Nat)(p q:Ln):Prop:=∀t,1≤t→t≤top→cv p t<cv q t
noncomputable instance(top:Nat)(p q:Ln):Decidable (Lf top p q):=decidable_of_iff (∀t∈bn 1 top,cv p t<cv q t)
 ⟨λh t h1 h2=>h t (bc.mpr ⟨h1,Ef h2⟩),λh t ht=>have:=bc.mp ht;h t this.1 (FX this.2)⟩
theorem Lf.trans{top:Nat}{p q r:Ln}(h1:Lf top p q)(h2:Lf top q r):Lf top p r:=λt a b=>ur (h1 t a b) (h2 t a b)
theorem Lf.irr{top:Nat}{p:Ln}(ht:1≤top)(h:Lf top p p):False:=dh _ (h 1 (b8 _) ht)
theorem EW{t:Nat}:∀rows:List Nat,(∀r∈rows,r<t)→(rows.map λr=>r / t).sum=0:=by
 intro xs_
 induction xs_ with
 |nil=>
  intro _
  exact rfl
 |cons r rows ih=>
  intro h
  simp only[ar,bG,AZ (h r (by simp)),ih λx hx=>h x (by simp[hx])]
theorem nH{p:Ln}{t:Nat}(h:∀r∈p.1,r<t):cv p t=p.2+t*p.1.length:=by
 unfold cv lv;rw[EW _ h,bH]
theorem yB{p q:Ln}:(∀r∈p.1,r<topP p q)∧(∀r∈q.1,r<topP p q)∧p.2<topP p q∧q.2<topP p q:=
 have k:∀(rows:List Nat)(b r:Nat),r∈rows→r≤max (cl rows - 1) b:=λrows b r hr=>ac (wP (cl_le rows r hr)) (jx _ _)
 ⟨λr hr=>c0 (ac (k _ _ _ hr) (jx _ _)),λr hr=>c0 (ac (k _ _ _ hr) (fG _ _)),c0 (ac (fG _ _) (jx _ _)),c0 (ac (fG _ _) (fG _ _))⟩
theorem vf{bp bq lp lq T:Nat}(h1:bq<T)(h:bp+T*lp<bq+T*lq):lp≤lq:=
 cM (Nat.lt_of_mul_lt_mul_left (a:=T) (bM (cP _ _) (ur h (bM (ax (bu _ _)) (Nat.add_lt_add_left h1 (T*lq))))))
theorem yW{bp bq lp lq T t:Nat}(h1:bq<T)(h:bp+T*lp<bq+T*lq)(ht:T≤t):bp+t*lp<bq+t*lq:=by
 obtain⟨k,rfl⟩:=d0 ht
 rw[mr,mr,←bK,←bK]
 exact sj h (cr k (vf h1 h))
theorem tj{p q:Ln}{t:Nat}(h:cv p (topP p q)<cv q (topP p q))(ht:topP p q≤t):cv p t<cv q t:=by
 obtain⟨a1,a2,a3,a4⟩:=yB (p:=p) (q:=q)
 rw[nH a1,nH a2]at h
 rw[nH λr hr=>aE (a1 r hr) ht,nH λr hr=>aE (a2 r hr) ht]
 exact yW a4 h ht
theorem sY{p q:Ln}:1≤topP p q:=cP 1 _
theorem yx{p q:Ln}{top:Nat}:((pd p q (bn 1 (topP p q))).filter λt=>decide (t≤top))=[]↔Lf top p q:=by
 rw[dC]
 constructor
 ·intro h t h1 h2
  by_cases c:t≤topP p q
  ·exact cS λhle=>h t (aO.mpr ⟨bc.mpr ⟨h1,Ef c⟩,decide_eq_true hle⟩) (decide_eq_true h2)
  ·exact tj (cS λhle=>h (topP p q) (aO.mpr ⟨bc.mpr ⟨sY,Ef (b8 _)⟩,decide_eq_true hle⟩) (decide_eq_true (ac (eH c) h2))) (eH c)
 ·intro h t ht hle
  have m:=aO.mp ht
  exact cK (of_decide_eq_true m.2) (h t (bc.mp m.1).1 (of_decide_eq_true hle))
theorem nG(p:Ln):cv p 1=nOf p.1 p.2:=by
 unfold cv lv nOf
 have:∀rows:List Nat,(rows.map λr=>r / 1).sum+rows.length=(rows.map (·+1)).sum:=λrows=>by
  induction rows with
  |nil=>rfl
  |cons r rows ih=>simp only[ar,bG,aD,Nat.div_one]at ih⊢;lia
 rw[pY,this];lia
theorem y0{p q:Ln}(h1:jl p)(h2:jl q):lessP p.1 p.2 q.1 q.2=true↔Lf 5 p q:=by
 have ht:=oN h1 h2
 unfold lessP
 by_cases c:nOf q.1 q.2≤nOf p.1 p.2
 ·rw[if_pos c]
  refine⟨λh=>(nomatch h),λh=>?_⟩
  have:=h 1 (by decide) (by decide)
  rw[nG,nG]at this;exact absurd this (cK c)
 ·rw[if_neg c]
  by_cases c2:cl p.1≤1∧cl q.1≤1
  ·rw[if_pos c2]
   have z1:∀r∈p.1,r<1:=λr hr=>aE (cl_le p.1 r hr) c2.1
   have z2:∀r∈q.1,r<1:=λr hr=>aE (cl_le q.1 r hr) c2.2
   have e1:∀t,1≤t→cv p t=p.2+t*p.1.length:=λt h=>nH λr hr=>aE (z1 r hr) h
   have e2:∀t,1≤t→cv q t=q.2+t*q.1.length:=λt h=>nH λr hr=>aE (z2 r hr) h
   rw[←nG,←nG,e1 1 (by decide),e2 1 (by decide)]at c
   rw[decide_eq_true_eq]
   constructor
   ·intro h t h1 h2
    rw[e1 t h1,e2 t h1]
    obtain⟨k,rfl⟩:=d0 h1
    rw[mr,mr,←bK,←bK]
    exact sj (cS c) (cr k h)
   ·intro h
    have:=h 5 (by decide) (by decide)
    rw[e1 5 (by decide),e2 5 (by decide)]at this
    exact vf (c0 h2.2.2) this
  ·rw[if_neg c2,bY]
   constructor
   ·intro h
    have all:∀t,1≤t→t≤topP p q→cv p t<cv q t:=λt a b=>by
     by_cases e:t=1
     ·rw[e,nG,nG];exact cS c
     ·exact of_decide_eq_true (h t (bc.mpr ⟨eQ a (aS e),Gw (b:=topP p q - 1) b⟩))
    intro t a b
    by_cases d:t≤topP p q
    ·exact all t a d
    ·exact tj (all _ sY (b8 _)) (eH d)
   ·intro h t hm
    have:=bc.mp hm
    exact decide_eq_true (h t (cw this.1) (ac (Gx this.2:t≤topP p q - 1+1) ht))
theorem qO(S:SS)(n:Int)(Bd:Int→Bool):(fJ S n).nodes.find? Bd=(S.nodes++[n]).find? Bd:=by
 unfold fJ
 dsimp only
 split
 ·rename_i h
  rw[cZ]
  cases hf:S.nodes.find? Bd with
  |some y=>rfl
  |none=>
   have:=jN.mp hf n h
   simp[this]
 ·rfl
theorem qU(n:Int)(Bd:Int→Bool):∀(ps:List Int)(S:SS),(ps.foldl (addP n) S).nodes.find? Bd=(S.nodes++ps).find? Bd∧∀p,(ps.foldl (addP n) S).succ p=S.succ p++aB (ps.count p) n:=by
 intro xs_
 induction xs_ with
 |nil=>
  intro S
  simp
 |cons q ps ih=>
  intro S
  obtain⟨h1,h2⟩:=ih (addP n S q)
  rw[dZ]
  refine⟨h1.trans ?_,λp=>(h2 p).trans ?_⟩
  ·have e:(addP n S q).nodes=(fJ S q).nodes:=rfl
   rw[e,cZ,qO,←cZ,b7];rfl
  ·show setF S.succ q (S.succ q++[n]) p++_=_
   unfold setF
   by_cases c:p=q
   ·subst c
    rw[if_pos rfl,List.count_cons_self,cV,b7];rfl
   ·rw[if_neg c,List.count_cons_of_ne (aS c)]
theorem za(n:Int)(Bd:Int→Bool)(k:Nat):(aB k n).find? Bd=if k=0 then none else if Bd n then some n else none:=by
 induction k with
 |zero=>rfl
 |succ k ih=>
  rw[cV,cF,ih]
  cases Bd n<;>simp
noncomputable def nam(h:Int→List Int)(js:List Int):List Int:=js.flatMap λl=>l::h l
noncomputable def h7(h:Int→List Int)(js:List Int)(p:Int):List Int:=js.filter λl=>decide (p∈h l)
structure SG(S:SS)(h:Int→List Int)(js:List Int):Prop where
 gw:GW S (λv=>v∈nam h js) (λp n=>n∈js∧p∈h n) (js.map λl=>(h l).length).sum
 suc:∀p (Bd:Int→Bool),(S.succ p).find? Bd=(h7 h js p).find? Bd
 nod:∀(Bd:Int→Bool),S.nodes.find? Bd=(nam h js).find? Bd
theorem SG.nil(h:Int→List Int):SG ⟨[],λz=>0,λz=>[],none,0,0⟩ h []:=by
 refine⟨?_,λz z=>rfl,λz=>rfl⟩
 have g:=GW.nil
 exact⟨g.w,g.np,g.rd,g.ps,g.fi,λm=>by simp[nam],λp n=>by simp,λp=>by simp⟩
theorem SG.add{S:SS}{h:Int→List Int}{js:List Int}(g:SG S h js)(n:Int):SG (addS S n (h n)) h (js++[n]):=by
 refine⟨?_,λp Bd=>?_,λBd=>?_⟩
 ·have g':=g.gw.add n (h n)
  refine⟨g'.w,g'.np,g'.rd,g'.ps,g'.fi,λm=>(g'.mem m).trans ?_,λp m=>(g'.edg p m).trans ?_,λp=>ac (g'.sz p) ?_⟩
  ·simp[nam]
  ·constructor
   ·rintro(⟨a,b⟩|⟨rfl,b⟩)
    ·exact⟨cz _ a,b⟩
    ·exact⟨by simp,b⟩
   ·rintro⟨a,b⟩
    rcases aL.mp a with a|a
    ·exact .inl ⟨a,b⟩
    ·simp at a;subst a;exact .inr ⟨rfl,b⟩
  ·simp
 ·have e:=(qU n Bd (h n) {fJ S n with np:=setF S.np n (S.np n+(h n).length)}).2 p
  have e2:(addS S n (h n)).succ p=S.succ p++aB ((h n).count p) n:=e
  rw[e2,cZ,g.suc,za]
  unfold h7
  rw[w9,cZ]
  congr 1
  by_cases c:p∈h n
  ·have:(h n).count p≠0:=λz=>dN.mp z c
   rw[if_neg this]
   simp[c,cF]
   cases Bd n<;>simp
  ·have:(h n).count p=0:=dN.mpr c
   rw[if_pos this]
   simp[c]
 ·have e:=(qU n Bd (h n) {fJ S n with np:=setF S.np n (S.np n+(h n).length)}).1
  have e2:(addS S n (h n)).nodes.find? Bd=((fJ S n).nodes++h n).find? Bd:=e
  rw[e2,cZ,qO,cZ,g.nod]
  unfold nam
  rw[wU,cZ]
  simp[cF]
  cases (List.flatMap (λl=>l::h l) js).find? Bd<;>cases Bd n<;>simp
noncomputable def walkI(next:Int→Int)(root:Int):Nat→Int
 |0=>root
 |k+1=>next (walkI next root k)
noncomputable def kO(next:Int→Int)(root:Int)(k:Nat):List Int:=(az k).map (walkI next root)
noncomputable def oa(next:Int→Int)(root:Int)(R:List Int):Prop:=∃k,(kO next root k).Nodup∧walkI next root k∈kO next root k∧R=(kO next root k).drop ((kO next root k).idxOf (walkI next root k))++[walkI next root k]
theorem ls(next:Int→Int)(root:Int)(k:Nat):kO next root (k+1)=kO next root k++[walkI next root k]:=by simp[kO,pZ]
theorem B8{next:Int→Int}{root:Int}{j k:Nat}(h:j<k):∃s,kO next root k=kO next root j++walkI next root j::s:=by
 induction k with
 |zero=>exact absurd h (lO _)
 |succ k ih=>
  by_cases c:j=k
  ·subst c;exact⟨[],ls ..⟩
  ·obtain⟨s,e⟩:=ih (eQ (cM h) c)
   exact⟨s++[walkI next root k],by rw[ls,e];simp⟩
theorem oa.uniq{next:Int→Int}{root:Int}{R R':List Int}(h:oa next root R)(h':oa next root R'):R=R':=by
 obtain⟨k,n1,m1,rfl⟩:=h
 obtain⟨k',n2,m2,rfl⟩:=h'
 have key:∀j k,j<k→(kO next root k).Nodup→walkI next root j∉kO next root j:=λj k hjk hn hm=>by
  obtain⟨s,e⟩:=B8 (next:=next) (root:=root) hjk
  rw[e,bg]at hn
  exact hn.2.2 _ hm _ (by simp) rfl
 rcases Nat.lt_trichotomy k k' with c|c|c
 ·exact absurd m1 (key _ _ c n2)
 ·subst c;rfl
 ·exact absurd m2 (key _ _ c n1)
theorem walkI_congr{n1 n2:Int→Int}{root:Int}{B:Int→Prop}(hB:B root)(h:∀u,B u→n1 u=n2 u∧B (n2 u)):∀k,walkI n1 root k=walkI n2 root k∧B (walkI n2 root k):=by
 intro n_
 induction n_ with
 |zero=>
  exact⟨rfl,hB⟩
 |succ k ih=>
  obtain⟨e,b⟩:=ih
  show n1 (walkI n1 root k)=_∧B (n2 (walkI n2 root k))
  rw[e]
  exact h _ b
theorem oa.congr{n1 n2:Int→Int}{root:Int}{B:Int→Prop}{R:List Int}(hB:B root)(h:∀u,B u→n1 u=n2 u∧B (n2 u))(r:oa n1 root R):oa n2 root R:=by
 have e:∀k,kO n1 root k=kO n2 root k:=λk=>gQ λi z=>(walkI_congr hB h i).1
 obtain⟨k,a,b,c⟩:=r
 rw[e,(walkI_congr hB h k).1]at b c
 rw[e]at a
 exact⟨k,a,b,c⟩
noncomputable def xh(S:SS)(B:Int→Prop)(u:Int):Int:=open Classical in((S.succ u).find? λy=>decide (B y)).getD 0
theorem pN{B:Int→Prop}{c:List Int}{v:Int}{r:List Int}(hc:∀y∈c,¬B y)(hv:B v):(open Classical in(c++v::r).find? λy=>decide (B y))=some v:=by
 rw[cZ]
 have:(open Classical in c.find? λy=>decide (B y))=none:=jN.mpr λy hy=>by simpa using hc y hy
 rw[this,cF]
 simp[hv]
theorem Ch.walk{S:SS}{B:Int→Prop}{rank:Int→Nat}(g:GB S B rank){root:Int→Prop}{r0:Int}(hr:∀v,B v→root v→v=r0):∀(st:List kU)(v:Int),(∀e∈st,e.1∈S.nodes)→B v→Ch S.succ B root v (toS st)→v=walkI (xh S B) r0 st.length∧(st.map (·.1)).reverse=kO (xh S B) r0 st.length:=by
 intro xs_
 induction xs_ with
 |nil=>
  intro v _ hv h
  exact⟨hr v hv h,rfl⟩
 |cons e_ st ih=>
  obtain⟨u,rem,I⟩:=e_
  rintro v hn hv ⟨⟨c,e,hc⟩,h⟩
  have hu:B u:=by
   by_cases q:B u
   ·exact q
   ·exact absurd hv (g.good u (hn (u,rem,I) ak) q v (by rw[show S.succ u=c++v::rem from e];simp)).1
  obtain⟨e1,e2⟩:=ih u (λx hx=>hn x (by simp[hx])) hu h
  have hx:xh S B u=v:=by
   unfold xh
   rw[e,pN hc hv];rfl
  refine⟨?_,?_⟩
  ·show v=xh S B (walkI (xh S B) r0 st.length)
   rw[←e1,hx]
  ·rw[ar,kb,e2,aD,ls,←e1]
theorem Cc{S:SS}{B:Int→Prop}{rank:Int→Nat}(g:GB S B rank){root:Int→Prop}{r0:Int}(hr:∀v,B v→root v→v=r0){st:List kU}{v:Int}(h:Ch S.succ B root v (toS st))(hv:B v)(hm:v∈st.map (·.1))(hd:(st.map (·.1)).Nodup)(hn:∀e∈st,e.1∈S.nodes):oa (xh S B) r0 (ring v st):=by
 obtain⟨e1,e2⟩:=Ch.walk g hr st v hn hv h
 refine⟨st.length,?_,?_,?_⟩
 ·rw[←e2];exact(List.reverse_perm _).nodup_iff.mpr hd
 ·rw[←e2,←e1];exact List.mem_reverse.mpr hm
 ·unfold ring posI
  rw[e2,←e1]
noncomputable def leftS(f:Int→List Int)(L:List Int):List Int:=L.filter λg=>decide ((f g).filter (λl=>decide (l∈L))≠ [])
noncomputable def fV(f:Int→List Int)(base:List Int):Nat→List Int
 |0=>base
 |k+1=>leftS f (fV f base k)
theorem leftN_stable{f:Int→List Int}{base:List Int}:∀k,(fV f base k).length+k≤base.length∨fV f base (k+1)=fV f base k:=by
 intro n_
 induction n_ with
 |zero=>
  exact .inl (b8 _)
 |succ k ih=>
  rcases ih with h|h
  ·by_cases c:fV f base (k+1)=fV f base k
   ·exact .inr (congrArg (leftS f) c)
   ·left
    have hle:(fV f base (k+1)).length<(fV f base k).length:=by
     apply eQ (bj _ _)
     intro e
     exact c (cm.mpr (List.length_filter_eq_length_iff.mp e))
    exact ac (ax (ba _ k 1)) (ac (bI hle k) h)
  ·exact .inr (congrArg (leftS f) h)
theorem leftN_fix{f:Int→List Int}{base:List Int}:fV f base (base.length+1)=fV f base base.length:=by
 rcases leftN_stable (f:=f) (base:=base) base.length with h|h
 ·have:fV f base base.length=[]:=kN.mp (uQ (si (ac h (ax (bH _).symm))))
  show leftS f (fV f base base.length)=_
  rw[this];rfl
 ·exact h
theorem iC{f:Int→List Int}{base:List Int}:∀k,∀v∈fV f base k,v∈base:=by
 intro n_
 induction n_ with
 |zero=>
  intro v h
  exact h
 |succ k ih=>
  intro v h
  exact ih v (aO.mp h).1
theorem leftN_all{f:Int→List Int}{base:List Int}:∀j,fV f base (base.length+j)=fV f base base.length:=by
 intro n_
 induction n_ with
 |zero=>
  exact rfl
 |succ j ih=>
  exact(congrArg (leftS f) (ih)).trans leftN_fix
noncomputable def rngI(m:Nat):List Int:=(az m).map λ(k:Nat)=>(k:Int)
theorem dP{m:Nat}{v:Int}:v∈rngI m↔0≤v∧v<m:=by
 simp only[rngI,ay,aW]
 constructor
 ·rintro⟨k,h,rfl⟩;exact⟨aN k,dm.mpr h⟩
 ·intro h;exact⟨v.toNat,vP h,(A6 h.1).symm⟩
theorem xl{m:Nat}{v:Int}(h:v∈rngI m):∃k:Nat,k<m∧v=(k:Nat):=have h:=dP.mp h;⟨v.toNat,vP h,A6 h.1⟩
theorem dj(m:Nat):(rngI m).length=m:=by simp[rngI]
structure HG(h:Int→List Int)(m:Nat):Prop where
 cls:∀k∈rngI m,∀p∈h k,p∈rngI m
 irr:∀k∈rngI m,k∉h k
 len:∀k,(h k).length≤30
theorem nam_mem{h:Int→List Int}{m:Nat}(H:HG h m){v:Int}:v∈nam h (rngI m)↔v∈rngI m:=by
 simp only[nam,dM,am]
 constructor
 ·rintro⟨l,hl,rfl|hv⟩
  ·exact hl
  ·exact H.cls l hl v hv
 ·intro hv;exact⟨v,hv,.inl rfl⟩
theorem left_iff{S:SS}{h:Int→List Int}{m:Nat}(H:HG h m)(g:SG S h (rngI m)):∀(k:Nat)(v:Int),v∈fV (h7 h (rngI m)) (rngI m) k↔Lv S k v:=by
 intro n_
 induction n_ with
 |zero=>
  intro v
  show v∈rngI m↔v∈S.nodes
  rw[g.gw.mem,nam_mem H]
 |succ k ih=>
  intro v
  show v∈List.filter _ _↔v∈S.nodes∧∃s∈S.succ v,Lv S k s
  rw[aO,decide_eq_true_eq,ne_eq,dC]
  constructor
  ·rintro⟨h1,h2⟩
   have h3:v∈S.nodes:=by rw[g.gw.mem,nam_mem H];exact iC k v h1
   refine⟨h3,?_⟩
   by_cases q:∃s∈S.succ v,Lv S k s
   ·exact q
   ·exfalso;apply h2
    intro s hs hl
    obtain⟨a,b⟩:=aO.mp hs
    exact q ⟨s,(g.gw.edg v s).mpr ⟨a,by simpa using b⟩,(ih s).mp (by simpa using hl)⟩
  ·rintro⟨h1,s,hs,hl⟩
   refine⟨(ih v).mpr (Lv.down ⟨h1,s,hs,hl⟩),λhno=>?_⟩
   obtain⟨a,b⟩:=(g.gw.edg v s).mp hs
   exact hno s (aO.mpr ⟨a,by simpa using b⟩) (by simpa using (ih s).mpr hl)
noncomputable def gn(h:Int→List Int)(m:Nat):List Int:=fV (h7 h (rngI m)) (rngI m) m
theorem nQ{S:SS}{h:Int→List Int}{m:Nat}(H:HG h m)(g:SG S h (rngI m)){v:Int}:v∈gn h m↔∀k,Lv S k v:=by
 have hl:=dj m
 have e:=λj=>leftN_all (f:=h7 h (rngI m)) (base:=rngI m) j
 rw[hl]at e
 constructor
 ·intro hv k
  have:v∈fV (h7 h (rngI m)) (rngI m) (m+k):=by rw[e];exact hv
  exact((left_iff H g _ v).mp this).le (cP k m)
 ·intro hv;exact(left_iff H g m v).mpr (hv m)
noncomputable def firstL(h:Int→List Int)(m:Nat):List Int:=(nam h (rngI m)).filter λv=>decide (v∈gn h m)
noncomputable def cx(h:Int→List Int)(m:Nat)(u:Int):Int:=((h7 h (rngI m) u).filter λv=>decide (v∈gn h m)).headD 0
inductive fh(h:Int→List Int)(m:Nat):V→Prop
 |no (e:firstL h m=[]):fh h m .none
 |yes (r:Int) (t R:List Int) (e:firstL h m=r::t) (w:oa (cx h m) r R):fh h m (.lst (R.map .int))
theorem fh.uniq{h:Int→List Int}{m:Nat}{a b:V}(x:fh h m a)(y:fh h m b):a=b:=by
 cases x with
 |no e=>cases y with
  |no e'=>rfl
  |yes r t R e' w=>rw[e]at e';cases e'
 |yes r t R e w=>cases y with
  |no e'=>rw[e]at e';cases e'
  |yes r' t' R' e' w'=>rw[e]at e';cases e';rw[w.uniq w']
theorem headD_q(xs:List Int):xs.headD 0=xs.head?.getD 0:=by cases xs<;>rfl
theorem head_find{xs:List Int}{p:Int→Bool}:(xs.filter p).head?=xs.find? p:=List.head?_filter ..
theorem fh.find{S:SS}{h:Int→List Int}{m:Nat}(H:HG h m)(g:SG S h (rngI m)){B:Int→Prop}{rank:Int→Nat}(G:GB S B rank)(hB:∀v∈S.nodes,B v↔∀k,Lv S k v){st:List kU}{v:Int}(hc:Ch S.succ B (n8 B S.nodes) v (toS st))(hv:B v)(hm:v∈st.map (·.1))(hd:(st.map (·.1)).Nodup)(hn:∀e∈st,e.1∈S.nodes):fh h m (.lst ((ring v st).map .int)):=by
 have bl:∀v∈S.nodes,(decide (v∈gn h m)=(open Classical in decide (B v))):=λv hv=>by
  by_cases c:B v
  ·simp[c,(nQ H g).mpr ((hB v hv).mp c)]
  ·have:v∉gn h m:=λz=>c ((hB v hv).mpr ((nQ H g).mp z))
   simp[c,this]
 have sub:∀(xs:List Int),(∀y∈xs,y∈S.nodes)→xs.find? (λv=>decide (v∈gn h m))=(open Classical in xs.find? λv=>decide (B v)):=λxs hx=>by
  induction xs with
  |nil=>rfl
  |cons y ys ih=>rw[cF,cF,bl y (hx y (by simp)),ih λz hz=>hx z (by simp[hz])]
 have root:∀u,B u→n8 B S.nodes u→(firstL h m).head?=some u:=λu hu ⟨pre,suf,e,hp⟩=>by
  unfold firstL
  rw[head_find,←g.nod,sub _ λy hy=>hy,e,pN hp hu]
 have next:∀u,B u→u∈S.nodes→xh S B u=cx h m u∧(B (cx h m u)∧cx h m u∈S.nodes):=λu hu hun=>by
  obtain⟨s,hs,hbs⟩:=G.bad u hun hu
  have e1:cx h m u=xh S B u:=by
   unfold cx xh
   rw[headD_q,head_find,←g.suc,sub _ λy hy=>G.cls u hun y hy]
  refine⟨e1.symm,?_⟩
  rw[e1]
  unfold xh
  cases hf:(open Classical in(S.succ u).find? λy=>decide (B y))with
  |none=>exact absurd hbs (by simpa using jN.mp hf s hs)
  |some y=>exact⟨by simpa using List.find?_some hf,G.cls u hun y (List.mem_of_find?_eq_some hf)⟩
 have hroot:∃r0,∀u,B u→n8 B S.nodes u→u=r0:=⟨(firstL h m).headD 0,λu hu hr=>by rw[headD_q,root u hu hr];rfl⟩
 obtain⟨r0,hr0⟩:=hroot
 have hR:=Cc G hr0 hc hv hm hd hn
 obtain⟨e1,e2⟩:=Ch.walk G hr0 st v hn hv hc
 have hbase:∀(st:List kU)(v:Int),(∀e∈st,e.1∈S.nodes)→B v→Ch S.succ B (n8 B S.nodes) v (toS st)→∃r,B r∧n8 B S.nodes r:=by
  intro st
  induction st with
  |nil=>intro v _ hb h;exact⟨v,hb,h⟩
  |cons e st ih=>
   obtain⟨u,rem,I⟩:=e
   rintro v hn hb ⟨⟨c,e,_⟩,h⟩
   refine ih u (λx hx=>hn x (by simp[hx])) ?_ h
   by_cases q:B u
   ·exact q
   ·exact absurd hb (G.good u (hn (u,rem,I) ak) q v (by rw[show S.succ u=c++v::rem from e];simp)).1
 obtain⟨r,hbr,hpr⟩:=hbase st v hn hv hc
 have hrr:=hr0 r hbr hpr
 subst hrr
 have hin:r∈S.nodes:=by obtain⟨pre,suf,e,_⟩:=hpr;rw[e];simp
 have hhead:=root r hbr hpr
 obtain⟨t,et⟩:∃t,firstL h m=r::t:=by
  cases hf:firstL h m with
  |nil=>rw[hf]at hhead;cases hhead
  |cons a t=>rw[hf]at hhead;cases hhead;exact⟨t,rfl⟩
 exact .yes r t _ et (hR.congr (B:=λu=>B u∧u∈S.nodes) ⟨hbr,hin⟩ λu hu=>next u hu.1 hu.2)
theorem fh.none_of{S:SS}{h:Int→List Int}{m:Nat}(H:HG h m)(g:SG S h (rngI m)){B:Int→Prop}(hB:∀v∈S.nodes,B v↔∀k,Lv S k v)(hn:∀v∈S.nodes,¬B v):fh h m .none:=by
 refine .no (dC.mpr λv hv=>?_)
 simp only[decide_eq_true_eq]
 intro hl
 have hv':v∈S.nodes:=(g.gw.mem v).mpr hv
 exact hn v hv' ((hB v hv').mpr ((nQ H g).mp hl))
theorem mY{α:Type}(enc:α→V)(g:α→List V){v:V}{hp0:Hp}{t:DA}{f:DT}{inner:CD}{K:List V→Hp→Prop}{loc:bk}{B:Nat}:∀(xs:List α)(acc:List V)(hp:Hp),acc.length+(xs.flatMap g).length≤B→same v hp0 hp→
 (∀x∈xs,∀(acc:List V),acc.length+(g x).length≤B→∀(R:List V→Hp→Prop),R (acc++g x) hp→
  t (enc x) (λloc1 hp2=>f (λb hp3=>if b then inner R acc loc1 hp3 else R acc hp3) noXA loc1 hp2) o8 loc hp)→
 K (acc++xs.flatMap g) hp→lQ v hp0 t f inner K (xs.map enc) acc loc hp:=by
 intro xs_
 induction xs_ with
 |nil=>
  intro acc hp _ _ _ h
  simpa[cLpN]using h
 |cons x xs ih=>
  intro acc hp hl hs st h
  simp only[f9,aJ]at hl
  refine st x ak acc (ac (dF (aM _ _) _) hl) (λacc' hp3=>same v hp0 hp3∧lQ v hp0 t f inner K (xs.map enc) acc' loc hp3) ⟨hs,?_⟩
  refine ih _ hp (by rw[aJ,bK];exact hl) hs (λu' hu=>st u' (aq _ hu)) ?_
  rw[f9,←b7]at h;exact h
noncomputable def listV(xs:List Int):V:=.lst (xs.map .int)
noncomputable def headsV(h:Int→List Int)(m:Nat):V:=.lst ((az m).map λ(k:Nat)=>listV (h k))
theorem AC{α:Type}(f:Nat→V){m k:Nat}(hk:k<m):eN ((az m).map f) (k:Int)=some (f k):=by
 unfold eN
 rw[if_pos (aN k)]
 simp[hk]
theorem mf{Q:V→Hp→Prop}{hp:Hp}(f:Nat→V){m k:Nat}(hk:k<m)(hm:m≤1000)(q:Q (f k) hp):bw (.lst ((az m).map f)) (.int (k:Nat)) Q hp:=by
 rw[j4]
 exact⟨by rw[aj,aK];exact lim2 _ hm,f k,AC (α:=Nat) f hk,q⟩
theorem ug{Q:V→Hp→Prop}{X:XA}{loc:bk}{hp:Hp}{h:Int→List Int}{m k i:Nat}(hk:k<m)(hm:m≤1000)(e67:loc 67=some (headsV h m))(ei:loc i=some (.int (k:Nat)))(q:Q (listV (h k)) hp):aZ bw (ai 67) (ai i) Q X loc hp:=by
 refine rv e67 (rv ei ?_)
 exact mf (λk=>listV (h k)) hk hm q
theorem Cu{Q:V→Hp→Prop}{hp:Hp}{k:Int}{xs:List Int}:p9 (.int k) (listV xs) Q hp=Q (.bool (decide (k∈xs))) hp:=Bc
theorem Dd(m:Nat):dp 0 m=(rngI m).map .int:=by rw[i9];simp[rngI]
noncomputable def folV(h:Int→List Int)(m:Nat):V:=.lst ((az m).map λ(p:Nat)=>listV (h7 h (rngI m) p))
theorem kp{fr:List Nat}{loc:bk}{i j:Nat}{v:V}{o:Option V}(h:j∈fr∧j≠i)(e:loc j=o):upd (keepL fr loc) i v j=o:=(upd_ne h.2).trans ((if_pos h.1).trans e)
theorem xD{Q:V→Hp→Prop}{hp:Hp}{k:Int}{xs:List Int}(q:Q (.bool (decide (k∈xs))) hp):p9 (.int k) (listV xs) Q hp:=in_ints q
theorem AI{Q:V→Hp→Prop}{X:XA}{loc:bk}{hp:Hp}{h:Int→List Int}{m:Nat}(hm:m≤1000)(e68:loc 68=some (.int (m:Nat)))(e67:loc 67=some (headsV h m))(q:Q (folV h m) hp):
 cI [68,67] (aT cJ (av (ai 68) aF)) (aG 69) fNone (dJ (cI [69,67] (aT cJ (av (ai 68) aF)) (aG 70) (cG p9 (ai 69) (aZ bw (ai 67) (ai 70))) (dJ (ai 70)))) Q X loc hp:=by
 refine u3 (λp=>listV (h7 h (rngI m) (p:Nat))) hm (λR hR=>rv e68 hR) (λp hp' R hR=>?_) q
 have k68:upd (keepL [68,67] loc) 69 (.int (p:Nat)) 68=some (.int (m:Nat)):=kp (by decide) e68
 have k67:upd (keepL [68,67] loc) 69 (.int (p:Nat)) 67=some (headsV h m):=kp (by decide) e67
 have k69:upd (keepL [68,67] loc) 69 (.int (p:Nat)) 69=some (.int (p:Nat)):=us
 generalize upd (keepL [68,67] loc) 69 (.int (p:Nat))=lo at*
 have e:(h7 h (rngI m) p).map V.int=((az m).filter λ(k:Nat)=>decide ((p:Int)∈h (k:Nat))).map λ(k:Nat)=>V.int (k:Nat):=by
  unfold h7 rngI
  rw[p8,bF];rfl
 unfold listV at hR
 rw[e]at hR
 show cI [69,67] _ _ _ _ _ _ _ _
 refine rv k68 (nl (A3 ⟨_,fK (by decide) (sG hm (by decide)),?_⟩))
 rw[i9]
 refine xn (λk:Nat=>.int (k:Nat)) (λk:Nat=>.int (k:Nat)) (λk=>decide ((p:Int)∈h (k:Nat))) (by rw[aK];exact hm) trivial (λk hk R hR=>?_) (λk hk z R hR=>rv us hR) hR
 exact rv (kp (by decide) k69) (ug (aW.mp hk) hm (kp (by decide) k67) us (xD (xb hR)))
theorem xV{Q:V→Hp→Prop}{X:XA}{loc:bk}{hp:Hp}{h:Int→List Int}{m:Nat}{L:List Int}{u:Int}(hm:m≤1000)(hu:u∈rngI m)(e71:loc 71=some (folV h m))(e72:loc 72=some (listV L))(e74:loc 74=some (.int u))(q:Q (listV ((h7 h (rngI m) u).filter λl=>decide (l∈L))) hp):
 cI [72] (aZ bw (ai 71) (ai 74)) (aG 70) (cG p9 (ai 70) (ai 72)) (dJ (ai 70)) Q X loc hp:=by
 obtain⟨k,hk,rfl⟩:=xl hu
 refine rv e71 (rv e74 (mf (λp=>listV (h7 h (rngI m) p)) hk hm ⟨_,rfl,?_⟩))
 have hl:(h7 h (rngI m) (k:Nat)).length≤m:=by
  unfold h7;exact ac (bj _ _) (ax (dj m))
 exact xn V.int V.int (λl=>decide (l∈L)) (ac hl hm) trivial (λl z R hR=>rv us (rv (kp (by decide) e72) (xD (xb hR)))) (λl z z R hR=>rv us hR) q
theorem wm{Q:Fw→bk→Hp→Prop}{X:XS}{loc:bk}{hp:Hp}{h:Int→List Int}{m:Nat}{L:List Int}(hm:m≤1000)(hL:∀u∈L,u∈rngI m)(hz:L.length≤1000)(e71:loc 71=some (folV h m))(e72:loc 72=some (listV L))(q:Q .next (upd loc 72 (listV (leftS (h7 h (rngI m)) L))) hp):jc Q X loc hp:=by
 unfold jc
 refine sq (rv e72 ⟨_,rfl,xn V.int V.int (λu=>decide ((h7 h (rngI m) u).filter (λl=>decide (l∈L))≠ [])) hz trivial (λu hu R hR=>?_) (λl z z R hR=>rv us hR) (gv (nx q))⟩)
 refine xV hm (hL u hu) (kp (by decide) e71) (kp (by decide) e72) us ⟨bx _,?_⟩
 exact ne_ints (b:=[]) (xb hR)
theorem wn{Q:Fw→bk→Hp→Prop}{v:V}{hp0 hp:Hp}{h:Int→List Int}{m:Nat}(hv:∀h h',same v h h')(hm:m≤1000):∀(js:List Nat)(k:Nat)(loc:bk),loc 71=some (folV h m)→loc 72=some (listV (fV (h7 h (rngI m)) (rngI m) k))→
 (∀loc',(∀i,i≠72→i≠73→loc' i=loc i)→loc' 72=some (listV (fV (h7 h (rngI m)) (rngI m) (k+js.length)))→Q .next loc' hp)→eK v hp0 (aG 73) jc Q (js.map λ(j:Nat)=>.int (j:Nat)) loc hp:=by
 intro xs_
 induction xs_ with
 |nil=>
  intro k loc e71 e72 q
  exact q loc (λz z z=>rfl) e72
 |cons j js IH=>
  intro k loc e71 e72 q
  refine gv ?_
  have hz:(fV (h7 h (rngI m)) (rngI m) k).length≤1000:=by
   have:∀k,(fV (h7 h (rngI m)) (rngI m) k).length≤m:=λk=>by
    induction k with
    |zero=>exact ax (dj m)
    |succ k ih=>exact ac (bj _ _) ih
   exact ac (this k) hm
  refine wm hm (iC k) hz ((upd_ne (by decide)).trans e71) ((upd_ne (by decide)).trans e72) ⟨hv _ _,?_⟩
  refine IH (k+1) _ ((upd_ne (by decide)).trans ((upd_ne (by decide)).trans e71)) us λloc' h1 h2=>q loc' (λi a b=>(h1 i a b).trans ((upd_ne a).trans (upd_ne b))) ?_
  rw[h2,aD,ba,bK]
theorem yS{Q:V→Hp→Prop}{X:XA}{loc:bk}{hp:Hp}{h:Int→List Int}{m:Nat}{L:List Int}(hm:m≤1000)(hlen:∀k,(h k).length≤30)(e68:loc 68=some (.int (m:Nat)))(e67:loc 67=some (headsV h m))(e72:loc 72=some (listV L))
 (q:Q (listV ((nam h (rngI m)).filter λv=>decide (v∈L))) hp):
 cI [67,72] (aT cJ (av (ai 68) aF)) (aG 70) fNone (qe (aZ ef (jS (av (ai 70) aF)) (aZ bw (ai 67) (ai 70))) (aG 74) (cG p9 (ai 74) (ai 72)) (dJ (ai 74))) Q X loc hp:=by
 have hlim:lim=1000000:=rfl
 simp only[oQ,dS,cD,dz,be,rd e68,nV]
 refine⟨_,fK (by decide) (sG hm (by decide)),?_⟩
 rw[i9]
 have hle:∀xs:List Nat,(xs.flatMap λ(k:Nat)=>(((k:Int)::h (k:Nat)).filter λv=>decide (v∈L)).map V.int).length≤31*xs.length:=λxs=>by
  induction xs with
  |nil=>simp
  |cons x xs ih=>
   have h1:=bj (λv=>decide (v∈L)) ((x:Int)::h (x:Nat))
   have h2:=hlen (x:Nat)
   simp only[f9,aJ,aj,aD]at h1 ih⊢
   rw[oB,bu];exact bN ih (ac h1 (aI h2))
 have h3:=hle (az m)
 rw[aK]at h3
 refine mY (B:=31*m) (λk:Nat=>V.int (k:Nat)) (λ(k:Nat)=>(((k:Int)::h (k:Nat)).filter λv=>decide (v∈L)).map V.int) (az m) [] hp (ac (ax (bH _)) h3) trivial (λk hk acc ha R hR=>?_) ?_
 ·refine gv (zM ?_)
  have k67:upd (keepL [67,72] loc) 70 (.int (k:Nat)) 67=some (headsV h m):=(upd_ne (by decide)).trans ((if_pos (by decide)).trans e67)
  have k72:upd (keepL [67,72] loc) 70 (.int (k:Nat)) 72=some (listV L):=(upd_ne (by decide)).trans ((if_pos (by decide)).trans e72)
  have k70:upd (keepL [67,72] loc) 70 (.int (k:Nat)) 70=some (.int (k:Nat)):=us
  generalize upd (keepL [67,72] loc) 70 (.int (k:Nat))=lo at*
  have h2:=hlen (k:Nat)
  show aZ ef (jS (av (ai 70) aF)) (aZ bw (ai 67) (ai 70)) _ _ _ _
  refine rv k70 ?_
  refine⟨aV rfl,?_⟩
  refine ug (aW.mp hk) hm k67 k70 ?_
  show ef (.lst [.int (k:Nat)]) (.lst ((h (k:Nat)).map .int)) _ _
  rw[oU]
  refine⟨by rw[aj];exact lim4 (ac (dF h2 1) (by decide)),_,rfl,?_⟩
  have e: [V.int (k:Nat)]++(h (k:Nat)).map V.int=((k:Int)::h (k:Nat)).map V.int:=rfl
  rw[e]
  have h4:=bj (λv=>decide (v∈L)) ((k:Int)::h (k:Nat))
  refine cLp_pure V.int (λv=>decide (v∈L)) V.int ((k:Int)::h (k:Nat)) acc hp (BM (ac (bN (ac (aM _ _) (ac ha (cr 31 hm))) (aI h2)) (by decide))) trivial (λv z acc' ha' R' hR'=>?_) hR
  rw[iB,jU,be,rd us,be,rd ((upd_ne (by decide)).trans k72),Cu,jb]
  by_cases c:v∈L
  ·simp only[c,decide_true,if_true]at hR'⊢
   rw[rC,be,rd us]
   exact⟨ha',hR'⟩
  ·simp only[c,decide_false,cC,if_false]at hR'⊢
   exact hR'
 ·have e:(nam h (rngI m)).filter (λv=>decide (v∈L))=(az m).flatMap λ(k:Nat)=>((k:Int)::h (k:Nat)).filter λv=>decide (v∈L):=by
   delta nam rngI
   rw[List.filter_flatMap,List.flatMap_map]
  have e2:((nam h (rngI m)).filter λv=>decide (v∈L)).map V.int=(az m).flatMap λ(k:Nat)=>(((k:Int)::h (k:Nat)).filter λv=>decide (v∈L)).map V.int:=by
   rw[e,kJ]
  rw[a8,←e2];exact q
noncomputable def Dr(h:Int→List Int)(m:Nat)(r:Int)(l:Addr)(k:Nat)(loc:bk):Prop:=
 loc 71=some (folV h m)∧loc 72=some (listV (gn h m))∧loc 76=some (.ref l)∧loc 74=some (.int (walkI (cx h m) r k))
theorem kt{h:Int→List Int}{m:Nat}{u:Int}(hu:u∈gn h m):∃t,(h7 h (rngI m) u).filter (λl=>decide (l∈gn h m))=cx h m u::t∧cx h m u∈gn h m:=by
 have fix:leftS (h7 h (rngI m)) (gn h m)=gn h m:=by
  have:=leftN_fix (f:=h7 h (rngI m)) (base:=rngI m)
  rw[dj]at this;exact this
 rw[←fix]at hu
 have h2:=(aO.mp hu).2
 rw[decide_eq_true_eq]at h2
 unfold cx
 cases hf:(h7 h (rngI m) u).filter (λl=>decide (l∈gn h m))with
 |nil=>exact absurd hf h2
 |cons y t=>
  have hy:y∈(h7 h (rngI m) u).filter (λl=>decide (l∈gn h m)):=by rw[hf];simp
  exact⟨t,rfl,by simpa using (aO.mp hy).2⟩
theorem uw{Q:Fw→bk→Hp→Prop}{h:Int→List Int}{m:Nat}{r:Int}{l:Addr}{hp:Hp}(hm:m≤1000)(hr:∀k,walkI (cx h m) r k∈gn h m):∀(n k:Nat)(loc:bk),m<k+n→(kO (cx h m) r k).Nodup→Dr h m r l k loc→
 (∀k loc',(kO (cx h m) r k).Nodup→walkI (cx h m) r k∈kO (cx h m) r k→Dr h m r l k loc'→Q .next loc' (upd hp l (.lst ((kO (cx h m) r k).map .int))))→
 kZ (cG i2 (ai 74) (ai 76)) kE aH Q n loc (upd hp l (.lst ((kO (cx h m) r k).map .int))):=by
 intro n_
 induction n_ with
 |zero=>
  intro k loc hk nd inv q
  exfalso
  have:(kO (cx h m) r k).length≤(rngI m).length:=gK _ _ nd λx hx=>by
   obtain⟨j,_,rfl⟩:=ay.mp hx
   exact iC m _ (hr j)
  rw[dj]at this
  simp[kO]at this;exact cK this hk
 |succ n ih=>
  intro k loc hk nd inv q
  obtain⟨i71,i72,i76,i74⟩:=inv
  have hlk:(kO (cx h m) r k).length≤m:=by
   have:(kO (cx h m) r k).length≤(rngI m).length:=gK _ _ nd λx hx=>by
    obtain⟨j,_,rfl⟩:=ay.mp hx
    exact iC m _ (hr j)
   rwa[dj]at this
  refine rv i74 (rv i76 ?_)
  refine we us ?_
  refine xb ?_
  by_cases c:walkI (cx h m) r k∈kO (cx h m) r k
  ·rw[decide_eq_false (λz=>z c)]
   refine iF bL ?_
   exact q k loc nd c ⟨i71,i72,i76,i74⟩
  ·rw[decide_eq_true c]
   refine iT rfl ?_
   unfold kE
   refine sq ?_
   refine rv i76 ?_
   refine⟨isLst_ref us,?_⟩
   refine rv i74 (nl ?_)
   refine gM us (by rw[aj];exact lim2 _ (ac hlk hm)) (nsq ?_)
   have e:(kO (cx h m) r k).map V.int++[V.int (walkI (cx h m) r k)]=(kO (cx h m) r (k+1)).map .int:=by rw[ls,dG];rfl
   rw[lF,e]
   obtain⟨t,et,_⟩:=kt (hr k)
   rw[eY,d1]
   refine xV hm (iC m _ (hr k)) i71 i72 i74 ?_
   rw[et]
   refine cn ?_
   unfold listV
   rw[j4]
   have hl2:(cx h m (walkI (cx h m) r k)::t).length≤m:=by
    rw[←et]
    refine ac (bj _ _) ?_
    unfold h7;exact ac (bj _ _) (ax (dj m))
   refine⟨by rw[aj];exact lim2 _ (ac hl2 hm),.int (cx h m (walkI (cx h m) r k)),rfl,?_⟩
   refine gv ?_
   have nd2:(kO (cx h m) r (k+1)).Nodup:=by
    rw[ls,bg]
    exact⟨nd,by simp,λx hx y hy=>by simp at hy;subst hy;rintro rfl;exact c hx⟩
   exact nx (ih (k+1) _ (aE hk (ax (ba k n 1))) nd2 ⟨(upd_ne (by decide)).trans i71,(upd_ne (by decide)).trans i72,(upd_ne (by decide)).trans i76,us⟩ q)
theorem uN{Q:V→Hp→Prop}{X:XA}{hp:Hp}{h:Int→List Int}{m:Nat}(hm:m≤1000)(hlen:∀k,(h k).length≤30)(q:∀v hp',fh h m v→Grow hp hp'→Q v hp'):ju [headsV h m] Q X hp:=by
 refine⟨[(67,headsV h m)],rfl,?_⟩
 have hlim:lim=1000000:=rfl
 have o67:locOf [(67,headsV h m)] 67=some (headsV h m):=rfl
 generalize locOf [(67,headsV h m)]=lo at*
 unfold pQ
 refine sq ?_
 refine rv o67 (nl ?_)
 unfold headsV
 refine A5 ?_
 rw[aj,aK]
 refine⟨lim2 _ hm,?_⟩
 refine gv ?_
 have a67:upd lo 68 (.int (m:Nat)) 67=some (headsV h m):=(upd_ne (by decide)).trans o67
 have a68:upd lo 68 (.int (m:Nat)) 68=some (.int (m:Nat)):=us
 generalize upd lo 68 (.int (m:Nat))=l1 at*
 refine nsq ?_
 refine AI hm a68 a67 ?_
 refine gv ?_
 have b67:upd l1 71 (folV h m) 67=some (headsV h m):=(upd_ne (by decide)).trans a67
 have b68:upd l1 71 (folV h m) 68=some (.int (m:Nat)):=(upd_ne (by decide)).trans a68
 have b71:upd l1 71 (folV h m) 71=some (folV h m):=us
 generalize upd l1 71 (folV h m)=l2 at*
 refine nsq ?_
 refine rv b68 (nl (A3 (nl ?_)))
 have hsm:bQ 0 (m:Int) 1=true:=rng_small (by decide) (sG hm (by decide)) (aN _)
 refine⟨0,(m:Int),rfl,hsm,by rw[ut];exact bC.mpr (lim2 _ hm),?_⟩
 rw[Dd]
 dsimp only
 refine gv ?_
 have c67:upd l2 72 (.lst ((rngI m).map .int)) 67=some (headsV h m):=(upd_ne (by decide)).trans b67
 have c68:upd l2 72 (.lst ((rngI m).map .int)) 68=some (.int (m:Nat)):=(upd_ne (by decide)).trans b68
 have c71:upd l2 72 (.lst ((rngI m).map .int)) 71=some (folV h m):=(upd_ne (by decide)).trans b71
 have c72:upd l2 72 (.lst ((rngI m).map .int)) 72=some (listV (fV (h7 h (rngI m)) (rngI m) 0)):=us
 generalize upd l2 72 (.lst ((rngI m).map .int))=l3 at*
 refine nsq ?_
 refine rv c68 (nl (A3 ?_))
 refine⟨_,fK (by decide) (sG hm (by decide)),?_⟩
 rw[i9]
 refine wn (by simp) hm (az m) 0 _ c71 c72 λl4 hl4 d72=>?_
 rw[aK,bH]at d72
 have d67:=(hl4 67 (by decide) (by decide)).trans c67
 have d68:=(hl4 68 (by decide) (by decide)).trans c68
 have d71:=(hl4 71 (by decide) (by decide)).trans c71
 clear hl4
 refine nsq ?_
 refine yS hm hlen d68 d67 d72 ?_
 refine gv ?_
 have e71:upd l4 75 (listV (firstL h m)) 71=some (folV h m):=(upd_ne (by decide)).trans d71
 have e72:upd l4 75 (listV (firstL h m)) 72=some (listV (gn h m)):=(upd_ne (by decide)).trans d72
 have e75:upd l4 75 (listV (firstL h m)) 75=some (listV (firstL h m)):=us
 show nxt _ _ _ _ (upd l4 75 (listV (firstL h m))) hp
 generalize upd l4 75 (listV (firstL h m))=l5 at*
 refine nsq ?_
 refine rv e75 ?_
 refine⟨bx _,?_⟩
 show pX (.lst ((firstL h m).map .int)) (.lst (gp .int [])) _ _
 refine eq_ints (xb ?_)
 by_cases c:firstL h m=[]
 ·rw[decide_eq_true c]
  refine iT rfl ?_
  refine sq ?_
  refine cn ?_
  exact xg (xg (q _ _ (.no c) (.refl _)))
 ·rw[decide_eq_false c]
  refine iF bL ?_
  obtain⟨r,t,er⟩:∃r t,firstL h m=r::t:=by
   cases hf:firstL h m with
   |nil=>exact absurd hf c
   |cons r t=>exact⟨r,t,rfl⟩
  have hrl:r∈gn h m:=by
   have:r∈firstL h m:=by rw[er];simp
   simpa using (aO.mp this).2
  have hwalk:∀k,walkI (cx h m) r k∈gn h m:=λk=>by
   induction k with
   |zero=>exact hrl
   |succ k ih=>exact(kt ih).choose_spec.2
  refine nx (sq ?_)
  refine⟨bx _,λl hl=>?_⟩
  refine gv ?_
  refine nsq ?_
  have f75:upd l5 76 (.ref l) 75=some (listV (firstL h m)):=(upd_ne (by decide)).trans e75
  refine rv f75 (cn ?_)
  unfold listV
  rw[j4]
  have hfl:(firstL h m).length≤31*m:=by
   refine ac (bj _ _) ?_
   have:∀xs:List Int,(nam h xs).length≤31*xs.length:=λxs=>by
    induction xs with
    |nil=>simp[nam]
    |cons x xs ih=>
     have:=hlen x
     simp only[nam,f9,aJ,aD]at ih⊢
     rw[oB,bu];exact bN ih (aI this)
   have:=this (rngI m)
   rwa[dj]at this
  refine⟨by rw[aj];exact BM (ac hfl (ac (cr 31 hm) (by decide))),.int r,by rw[er];rfl,?_⟩
  refine gv ?_
  refine nsq ⟨m+1,?_⟩
  refine uw (l:=l) (hp:=hp) hm hwalk (m+1) 0 _ (aE (ct m) (ax (bH _).symm)) (by simp[kO]) ⟨(upd_ne (by decide)).trans ((upd_ne (by decide)).trans e71),(upd_ne (by decide)).trans ((upd_ne (by decide)).trans e72),(upd_ne (by decide)).trans us,us⟩ λk l6 nd hk inv=>nsq ?_
  obtain⟨i71,i72,i76,i74⟩:=inv
  have hlk:(kO (cx h m) r k).length≤m:=by
   have:(kO (cx h m) r k).length≤(rngI m).length:=gK _ _ nd λx hx=>by
    obtain⟨j,_,rfl⟩:=ay.mp hx
    exact iC m _ (hwalk j)
   rwa[dj]at this
  have hcut:oy ((kO (cx h m) r k).map V.int) (some ((kO (cx h m) r k).idxOf (walkI (cx h m) r k):Nat)) ae ae=((kO (cx h m) r k).drop ((kO (cx h m) r k).idxOf (walkI (cx h m) r k))).map .int:=by
   rw[mW,i4]
  simp only[rq,d1,Cy,be,rd i76,rd i74,iH,cD,dz]
  refine⟨isLst_ref us,_,_,_,_,rfl,listOf_ref us,ku _,by rw[aj];exact lim2 _ (ac hlk hm),hk,?_⟩
  simp only[ek]
  refine⟨_,some ((kO (cx h m) r k).idxOf (walkI (cx h m) r k):Nat),ae,ae,listOf_ref us,by rw[aj];exact lim2 _ (ac hlk hm),rfl,rfl,rfl,by trivial,?_⟩
  rw[hcut]
  simp only[rB,cD,be,rd i74,dz,oU]
  refine⟨lim2 _ (by simp),by rw[aj,iW];exact lim4 (ac (aI (ac (ie _ _) (ac hlk hm))) (by decide)),xg ?_⟩
  have hR:fh h m _:=.yes r t _ er ⟨k,nd,hk,rfl⟩
  rw[dG]at hR
  exact q _ _ hR (.new hl)
theorem pj{Z hp:Hp}{x:Addr}{S:SS}(o:nr Z hp x S):Grow Z hp:=by obtain⟨dd,D,ia,la,R,o⟩:=o;exact o.gr
theorem iO{Z hp:Hp}{x:Addr}{S:SS}(o:nr Z hp x S){j:Nat}(hj:j≠2∧j≠5∧j≠11∧j≠12):cY cT j hp (.ref x):=by obtain⟨dd,D,ia,la,R,o⟩:=o;exact o.inst hj
section
variable{h:Int→List Int}{m:Nat}
theorem u7{xs:List Int}(nd:xs.Nodup)(hs:∀x∈xs,x∈rngI m):xs.length≤m:=by
 have:=gK _ _ nd hs
 rwa[dj]at this
theorem Dm(H:HG h m):∀js:List Int,(js.map λl=>(h l).length).sum≤30*js.length:=by
 intro xs_
 induction xs_ with
 |nil=>
  exact b8 _
 |cons j js ih=>
  rw[ar,bG,aD,oB,bu];exact bN ih (H.len j)
theorem qF(k:Nat):rngI (k+1)=rngI k++[(k:Int)]:=by simp[rngI,pZ]
theorem wM{Q:Fw→bk→Hp→Prop}{v:V}{hp0 Z:Hp}{x:Addr}(hv:∀h h',same v h h')(hm:m≤100)(H:HG h m):∀(n k:Nat)(hp:Hp)(S:SS)(loc:bk),k+n=m→nr Z hp x S→SG S h (rngI k)→loc 77=some (.ref x)→loc 67=some (headsV h m)→
 (∀loc' hp' S',(∀i,i≠74→loc' i=loc i)→nr Z hp' x S'→SG S' h (rngI m)→Q .next loc' hp')→eK v hp0 (aG 74) jY Q ((bn k n).map λj=>.int (j:Nat)) loc hp:=by
 intro n_
 induction n_ with
 |zero=>
  intro k hp S loc hk o g e77 e67 q
  have:k=m:=hk
  subst this
  exact q loc hp S (λz z=>rfl) o g
 |succ n ih=>
  intro k hp S loc hk o g e77 e67 q
  rw[kH]
  refine gv ?_
  unfold jY
  refine sq ?_
  have f77:upd loc 74 (.int (k:Nat)) 77=some (.ref x):=(upd_ne (by decide)).trans e77
  have f67:upd loc 74 (.int (k:Nat)) 67=some (headsV h m):=(upd_ne (by decide)).trans e67
  have f74:upd loc 74 (.int (k:Nat)) 74=some (.int (k:Nat)):=us
  have hkm:k≤m:=ac (aM _ _) (ax hk)
  have hsub:∀v∈S.nodes,v∈rngI m:=λv hv=>by
   have:=(g.gw.mem v).mp hv
   obtain⟨l,hl,hv'⟩:=dM.mp this
   have hl':l∈rngI m:=dP.mpr ⟨(dP.mp hl).1,j0 (dP.mp hl).2 (bC.mpr hkm)⟩
   rcases am.mp hv' with rfl|hv'
   ·exact hl'
   ·exact H.cls l hl' v hv'
  have hn:=u7 g.gw.w.nd hsub
  have hl:=H.len (k:Nat)
  have hlim:lim=1000000:=rfl
  refine rv f77 ?_
  refine⟨iO o (by decide),?_⟩
  refine rv f74 ?_
  refine ug (aE (Nat.lt_add_of_pos_right (oA n)) (ax hk)) (ac hm (by decide)) f67 f74 ⟨(h (k:Nat)).map .int,rfl,by rw[aj];exact lim4 (ac hl (by decide)),?_⟩
  refine nl ?_
  rw[bD]
  refine DQ o g.gw.rd (ac (bN (ac hn hm) hl) (by decide)) (λp=>?_) λhp' o'=>nx ?_
  ·have h1:=g.gw.sz p
   have h2:=Dm H (rngI k)
   rw[dj]at h2;exact ac (bN (ac h1 (ac h2 (cr 30 (ac hkm hm)))) hl) (by decide)
  ·have g2:=g.add (k:Int)
   rw[←qF]at g2
   exact⟨hv _ _,ih (k+1) hp' _ _ ((ba k 1 n).trans hk) o' g2 f77 f67 λloc' hp2 S2 h1=>q loc' hp2 S2 λi hi=>(h1 i hi).trans (upd_ne hi)⟩
noncomputable def xu(h:Int→List Int)(m:Nat):List Int→List Int→Prop
 |order,[]=>∀n∈rngI m,n∉order→∃p∈h n,p∉order
 |order,g::gs=>g∈rngI m∧g∉order∧(∀p∈h g,p∈order)∧(∀n∈rngI m,n∉order→n≠g→∃p∈h n,p∉order)∧xu h m (order++[g]) gs
theorem Ce{xs:List Int}{g:Int}(nd:xs.Nodup)(hg:∀n,n∈xs↔n=g):xs=[g]:=by
 cases xs with
 |nil=>have:=(hg g).mpr rfl;cases this
 |cons a t=>
  have ha:=(hg a).mp (by simp)
  subst ha
  cases t with
  |nil=>rfl
  |cons b t=>
   have hb:=(hg b).mp ((.tail _ (.head _)))
   subst hb
   simp at nd
variable{S0:SS}
theorem KI.zero'(H:HG h m)(g:SG S0 h (rngI m)){order r:List Int}{S:SS}(k:KI S0.nodes S0.succ order [] r S){n:Int}(hn:n∈rngI m)(ho:n∉order):n∈r↔∀p∈h n,p∈order:=by
 have hn':n∈S0.nodes:=(g.gw.mem n).mpr ((nam_mem H).mpr hn)
 have z:=k.zero n hn' ho
 rw[a8,inc_zero]at z
 rw[z]
 constructor
 ·intro q p hp
  exact q p ((g.gw.mem p).mpr ((nam_mem H).mpr (H.cls n hn p hp))) ((g.gw.edg p n).mpr ⟨hn,hp⟩)
 ·intro q p _ hs;exact q p ((g.gw.edg p n).mp hs).2
noncomputable def rndV(gs:List Int):List V:=gs.map λg=>.tup [.int g]
theorem ux{Q:Fw→bk→Hp→Prop}{x l:Addr}{hpI:Hp}(hm:m≤100)(H:HG h m)(g:SG S0 h (rngI m)):∀(gs order r:List Int)(hp:Hp)(S:SS)(loc:bk)(n:Nat),gs.length<n→xu h m order gs→KI S0.nodes S0.succ order [] r S→nr (upd hpI l (.lst (rndV order))) hp x S→loc 77=some (.ref x)→loc 82=some (.ref l)→loc 67=some (headsV h m)→
 (∀hp' S',nr (upd hpI l (.lst (rndV (order++gs)))) hp' x S'→Q .next loc hp')→
 kZ (i7 (me (bX (cY cT 83) fk (ai 77) aF)) (i7 (cG (iZ λa b=>decide (a≤b)) (aT d9 (av (ai 82) aF)) (aT d9 (av (ai 67) aF))) (λQ y y hp=>Q true hp))) iJ aH Q n loc hp:=by
 intro gs
 induction gs with
 |nil=>
  intro order r hp S loc n hn hk ki o e77 e82 e67 q
  obtain⟨n,rfl⟩:=fL (e9 hn)
  have hr:r=[]:=by
   cases hr:r with
   |nil=>rfl
   |cons a t=>
    exfalso
    have ha:a∈r:=by rw[hr];simp
    have ha2:a∈S0.nodes:=ki.sub a (by simp[ha])
    have ha3:a∈rngI m:=(nam_mem H).mp ((g.gw.mem a).mp ha2)
    have ha4:a∉order:=λz=>by
     have:=ki.dis
     rw[bg]at this
     exact this.2.2 a z a (by simp[ha]) rfl
    obtain⟨p,hp1,hp2⟩:=hk a ha3 ha4
    exact hp2 ((ki.zero' H g ha3 ha4).mp ha p hp1)
  subst hr
  refine rv e77 ?_
  refine⟨iO o (by decide),?_⟩
  refine tD o ki.rd (by simp) ?_
  have act:(decide (S.fin<S.pass)|| !([]:List Int).isEmpty)=false:=by rw[ki.ps,ki.fi];simp
  rw[rF,act]
  refine iF bL (iF bL ?_)
  exact q hp S (by rw[bD];exact o)
 |cons gg gs ih=>
  intro order r hp S loc n hn hk ki o e77 e82 e67 q
  obtain⟨k1,k2,k3,k4,k5⟩:=hk
  obtain⟨n,rfl⟩:=fL (e9 (bM (bx _) hn))
  have hlim:lim=1000000:=rfl
  have hr:r=[gg]:=by
   refine Ce ?_ λn=>⟨λhn=>?_,λhn=>?_⟩
   ·have:=ki.dis
    rw[a8,bg]at this
    exact this.2.1
   ·have ha2:n∈S0.nodes:=ki.sub n (by simp[hn])
    have ha3:n∈rngI m:=(nam_mem H).mp ((g.gw.mem n).mp ha2)
    have ha4:n∉order:=λz=>by
     have:=ki.dis
     rw[bg]at this
     exact this.2.2 n z n (by simp[hn]) rfl
    by_cases c:n=gg
    ·exact c
    ·obtain⟨p,hp1,hp2⟩:=k4 n ha3 ha4 c
     exact absurd ((ki.zero' H g ha3 ha4).mp hn p hp1) hp2
   ·subst hn;exact(ki.zero' H g k1 k2).mpr k3
  subst hr
  have ho:order.Nodup∧∀n∈order,n∈rngI m:=⟨(bg.mp ki.dis).1,λn hn=>(nam_mem H).mp ((g.gw.mem n).mp (ki.sub n (by simp[hn])))⟩
  have hol:=u7 ho.1 ho.2
  have hrl:(rndV order).length=order.length:=by simp[rndV]
  have hl:hp l=some (.lst (rndV order)):=pj o _ _ us
  rw[xL,ud,x8,iH,be,rd e77]
  refine⟨iO o (by decide),?_⟩
  refine tD o ki.rd (by simp) ?_
  have act:(decide (S.fin<S.pass)|| !([gg]:List Int).isEmpty)=true:=by simp
  rw[rF,act,if_pos rfl,ud,jU,dS,cD,be,rd e82,dz,len_ref hl (by rw[hrl];exact lim2 _ (ac hol (ac hm (by decide)))),dS,cD,be,rd e67,dz]
  unfold headsV
  refine A5 ?_
  rw[aj,aK]
  refine⟨lim2 _ (ac hm (by decide)),?_⟩
  rw[pw,jb,hrl,decide_eq_true (bC.mpr hol),if_pos rfl]
  dsimp only
  refine iT rfl ?_
  unfold iJ
  refine sq ?_
  refine rv e82 ?_
  refine⟨isLst_ref hl,?_⟩
  refine rv e77 ?_
  refine⟨iO o (by decide),?_⟩
  have hsn:∀n∈[gg],n∈S.nodes:=λn hn=>by rw[ki.hn];exact ki.sub n (by simp at hn;simp[hn])
  refine AV o ki.rd hsn (by simp) λhp1 o1=>?_
  refine nl ?_
  have hl1:hp1 l=some (.lst (rndV order)):=pj o1 _ _ us
  refine gM hl1 (by rw[hrl];exact lim2 _ (ac hol (ac hm (by decide)))) (nsq ?_)
  have o2:=o1.other (g:=l) (o:=.lst (rndV order++[V.tup ([gg].map .int)])) (.inr ⟨_,us⟩)
  rw[lF]at o2
  have e2:rndV order++[V.tup ([gg].map .int)]=rndV (order++[gg]):=by simp[rndV]
  have hl2:upd hp1 l (.lst (rndV order++[V.tup ([gg].map .int)])) l=some (.lst (rndV order++[V.tup ([gg].map .int)])):=us
  refine rv e77 ?_
  refine⟨iO o2 (by decide),?_⟩
  rw[AS,d1,be,rd e82,Cw,ek]
  refine⟨1,rfl,?_⟩
  rw[item_list hl2 (by rw[aJ,hrl,lP];exact lim4 (ac (aI (ac hol hm)) (by decide))) (itemAt_last _ _)]
  refine⟨_,rfl,aV rfl,?_⟩
  refine nl ?_
  rw[bD]
  have ki1:=ki.out
  rw[a8]at ki1
  have hcl:∀n∈S0.nodes,∀s∈S0.succ n,s∈S0.nodes:=λn y s hs=>by
   have:=(g.gw.edg n s).mp hs
   exact(g.gw.mem s).mpr ((nam_mem H).mpr this.1)
  obtain⟨np1,np2,z,ki2⟩:=ki1.done g.gw.w.nd (c:=gg) ((.head _)) hcl
  have hsr:(lc S [gg]).succ=S0.succ:=(ks [gg] S).2.1.trans ki.hs
  have hnr:(lc S [gg]).nodes=S0.nodes:=(ks [gg] S).1.trans ki.hn
  have hsz:(S0.succ gg).length≤30*m:=by
   have h1:=g.gw.sz gg
   have h2:=Dm H (rngI m)
   rw[dj]at h2;exact ac h1 h2
  have dk:rE (lc S [gg]) [gg]:=⟨by rw[hnr];exact np2,np1,λs hs=>by rw[hnr];rw[hsr]at hs;exact hcl gg np2 s hs,⟨[],rfl,by rw[hsr];simp;exact ac hsz (ac (cr 30 hm) (by decide))⟩,trivial⟩
  refine CB o2 dk (by simp) (by simp[lc]) λhp3 o3=>nx ?_
  rw[e2]at o3
  have hw:([gg]:List Int).erase gg=[]:=by simp
  rw[hw]at ki2
  exact ih (order++[gg]) _ hp3 _ loc n (lE hn) k5 ki2 o3 e77 e82 e67 λhp' S' o'=>q hp' S' (by rw[b7]at o';exact o')
inductive CN(h:Int→List Int)(m:Nat)(gs:List Int):V→Prop
 |no (r:fh h m .none):CN h m gs (.tup [.none,.bool false,.lst (rndV gs)])
 |yes (R:List Int) (r:fh h m (.lst (R.map .int))):CN h m gs (.tup [.lst (R.map .int),.bool true,.lst (rndV gs)])
noncomputable def t4:DS:=
 (aA (bB (mi aF) (aG 82))
 (aA (mm (i7 (me (bX (cY cT 83) fk (ai 77) aF)) (i7 (cG (iZ λa b=>decide (a≤b)) (aT d9 (av (ai 82) aF)) (aT d9 (av (ai 67) aF))) (λQ z z hp=>Q true hp)))
 iJ
 aH)
 (aA (gH (mh (av (ai 79) (av (ai 80) (av (xq 82) aF)))))
 aH)))
theorem Ah{Q:Fw→bk→Hp→Prop}{X:XS}{x:Addr}{hpI hp:Hp}{loc:bk}{ringV:V}{rb:Bool}{gs:List Int}(hm:m≤100)(H:HG h m)(g:SG S0 h (rngI m))(hr:S0.ready=none)(hk:xu h m [] gs)(o:nr hpI hp x (prepS S0))(e77:loc 77=some (.ref x))(e67:loc 67=some (headsV h m))(e79:loc 79=some ringV)(e80:loc 80=some (.bool rb))
 (q:∀loc' hp',Grow hpI hp'→Q (.ret (.tup [ringV,.bool rb,.lst (rndV gs)])) loc' hp'):t4 Q X loc hp:=by
 have hlim:lim=1000000:=rfl
 unfold t4
 refine sq ?_
 refine⟨bx _,λl hl=>?_⟩
 refine gv ?_
 have hzl:hpI l=ae:=(pj o).back hl
 have ki:KI S0.nodes S0.succ [] [] (S0.nodes.filter λn=>decide (S0.np n=0)) (prepS S0):=KI.start g.gw.w.nd rfl rfl g.gw.ps g.gw.fi λn z=>by rw[g.gw.np,Ac]
 refine nsq ⟨gs.length+1,?_⟩
 have o1:=o.other (g:=l) (o:=.lst []) (.inl hl)
 refine ux (l:=l) (hpI:=hpI) hm H g gs [] _ _ _ _ (gs.length+1) (ct _) hk ki o1 ((upd_ne (by decide)).trans e77) us ((upd_ne (by decide)).trans e67) λhp' S' o2=>nsq ?_
 have f79:upd loc 82 (.ref l) 79=some ringV:=(upd_ne (by decide)).trans e79
 have f80:upd loc 82 (.ref l) 80=some (.bool rb):=(upd_ne (by decide)).trans e80
 have f82:upd loc 82 (.ref l) 82=some (.ref l):=us
 refine rv f79 (rv f80 ?_)
 refine⟨l,_,f82,pj o2 _ _ us,?_⟩
 rw[a8]
 refine⟨aV rfl,xg (q _ _ ?_)⟩
 exact((Grow.new hzl).trans (pj o2)).del hzl
theorem tN{Q:V→Hp→Prop}{X:XA}{hp:Hp}{gs:List Int}(hm:m≤30)(H:HG h m)(hk:xu h m [] gs)(q:∀v hp',CN h m gs v→Grow hp hp'→Q v hp'):jL [headsV h m] Q X hp:=by
 refine⟨[(67,headsV h m)],rfl,?_⟩
 have hlim:lim=1000000:=rfl
 have o67:locOf [(67,headsV h m)] 67=some (headsV h m):=rfl
 generalize locOf [(67,headsV h m)]=lo at*
 unfold ot
 refine sq ?_
 rw[eY,dS,dz]
 refine zp λx hp1 hx o1=>?_
 refine gv ?_
 refine nsq ?_
 have a67:upd lo 77 (.ref x) 67=some (headsV h m):=(upd_ne (by decide)).trans o67
 have a77:upd lo 77 (.ref x) 77=some (.ref x):=us
 generalize upd lo 77 (.ref x)=l1 at*
 refine rv a67 (nl ?_)
 unfold headsV
 refine A5 ?_
 rw[aj,aK]
 refine⟨lim2 _ (ac hm (by decide)),?_⟩
 refine nl (A3 ?_)
 refine⟨_,fK (by decide) (sG hm (by decide)),?_⟩
 rw[i9,vB]
 refine wM (by simp) (ac hm (by decide)) H m 0 _ _ _ (bH m) o1 (SG.nil h) a77 a67 λl2 hp2 S hl2 o2 g=>nsq ?_
 have b67:=(hl2 67 (by decide)).trans a67
 have b77:=(hl2 77 (by decide)).trans a77
 clear hl2
 have hcls:∀v∈S.nodes,∀s∈S.succ v,s∈S.nodes:=λv z s hs=>by
  have:=(g.gw.edg v s).mp hs
  exact(g.gw.mem s).mpr ((nam_mem H).mpr this.1)
 obtain⟨B,rank,G,hB⟩:=gb_exists S hcls
 refine rv b77 ?_
 refine⟨iO o2 (by decide),?_⟩
 have tail:∀(ringV:V)(rb:Bool)(l:bk)(hp3:Hp),nr hp hp3 x (prepS S)→l 77=some (.ref x)→l 67=some (headsV h m)→l 79=some ringV→l 80=some (.bool rb)→CN h m gs (.tup [ringV,.bool rb,.lst (rndV gs)])→t4 (λw loc2 hp'=>match w with| .ret v=>Q v hp'| .next=>Q .none hp'|_=>False) (λk z hp'=>X k hp') l hp3:=λringV rb l hp3 o h77 h67 h79 h80 st=>
  Ah (ac hm (by decide)) H g g.gw.rd hk o h77 h67 h79 h80 λloc' hp' gr=>q _ _ st gr
 refine ym o2 G (λst v hp3 c1 c2 c3 c4 c5 gr=>?_) λhp3 hno gr=>?_
 ·have hR:fh h m (.lst ((ring v st).map .int)):=fh.find H g G hB c1 c2 c3 c4 c5
  generalize hringV:V.lst ((ring v st).map .int)=ringV
  refine gv ?_
  refine nsq ?_
  refine cn (gv ?_)
  refine nsq ?_
  have d67:upd (upd l2 79 ringV) 80 (.bool false) 67=some (headsV h m):=(upd_ne (by decide)).trans ((upd_ne (by decide)).trans b67)
  have d77:upd (upd l2 79 ringV) 80 (.bool false) 77=some (.ref x):=(upd_ne (by decide)).trans ((upd_ne (by decide)).trans b77)
  have d79:upd (upd l2 79 ringV) 80 (.bool false) 79=some ringV:=(upd_ne (by decide)).trans us
  generalize upd (upd l2 79 ringV) 80 (.bool false)=l3 at*
  refine sq ?_
  have o3:=o2.grow gr
  refine rv d77 ?_
  refine⟨iO o3 (by decide),?_⟩
  have hvn:v∈S.nodes:=by
   obtain⟨e,he,rfl⟩:=ay.mp c3
   exact c5 e he
  refine qR o3 g.gw.rd G (λhp4 o4 z=>⟨rfl,?_⟩) λhp4 o4 hn=>absurd c2 (hn v hvn)
  refine sq ?_
  refine cn (gv ?_)
  refine nx (nx ?_)
  exact tail ringV true _ hp4 o4 ((upd_ne (by decide)).trans d77) ((upd_ne (by decide)).trans d67) ((upd_ne (by decide)).trans d79) us (hringV▸ .yes _ hR)
 ·have hR:fh h m .none:=fh.none_of H g hB hno
  refine gv ?_
  refine nsq ?_
  refine cn (gv ?_)
  refine nsq ?_
  have d67:upd (upd l2 79 .none) 80 (.bool false) 67=some (headsV h m):=(upd_ne (by decide)).trans ((upd_ne (by decide)).trans b67)
  have d77:upd (upd l2 79 .none) 80 (.bool false) 77=some (.ref x):=(upd_ne (by decide)).trans ((upd_ne (by decide)).trans b77)
  have d79:upd (upd l2 79 .none) 80 (.bool false) 79=some .none:=(upd_ne (by decide)).trans us
  have d80:upd (upd l2 79 .none) 80 (.bool false) 80=some (.bool false):=us
  generalize upd (upd l2 79 .none) 80 (.bool false)=l3 at*
  refine sq ?_
  have o3:=o2.grow gr
  refine rv d77 ?_
  refine⟨iO o3 (by decide),?_⟩
  refine qR o3 g.gw.rd G (λhp4 o4 ⟨v,hv,hb⟩=>absurd hb (hno v hv)) λhp4 o4 hn=>nx (nx ?_)
  exact tail .none false _ hp4 o4 d77 d67 d79 d80 (.no hR)
end
theorem lt_unique:∀(xs ys:List Int),xs.Pairwise (·< ·)→ys.Pairwise (·< ·)→(∀n,n∈xs↔n∈ys)→xs=ys
 | [],[],_,_,_=>rfl
 | [],y::ys,_,_,h=>absurd ((h y).mpr ak) (by simp)
 |x::xs,[],_,_,h=>absurd ((h x).mp ak) (by simp)
 |x::xs,y::ys,hx,hy,h=>by
  rw[w7]at hx hy
  have e:x=y:=by
   have h1:=(h x).mp ak
   have h2:=(h y).mpr ak
   rcases am.mp h1 with h1|h1
   ·exact h1
   ·rcases am.mp h2 with h2|h2
    ·exact h2.symm
    ·exact absurd (hx.1 y h2) (Int.not_lt_of_ge (oE (hy.1 x h1)))
  subst e
  congr 1
  refine lt_unique xs ys hx.2 hy.2 λn=>?_
  constructor
  ·intro hn
   have:=(h n).mp (aq _ hn)
   rcases am.mp this with rfl|h'
   ·exact absurd (hx.1 n hn) (CX _)
   ·exact h'
  ·intro hn
   have:=(h n).mpr (aq _ hn)
   rcases am.mp this with rfl|h'
   ·exact absurd (hy.1 n hn) (CX _)
   ·exact h'
theorem sortZ_lt(xs:List Int)(hn:xs.Nodup):(sortZ xs).Pairwise (·< ·):=by
 have h1:(sortZ xs).Pairwise (λa b=>decide (a≤b)=true):=tO (le:=λa b=>decide (a≤b)) (λa b c h1 h2=>decide_eq_true (fO (of_decide_eq_true h1) (of_decide_eq_true h2))) (λa b=>by simp;exact DZ a b) xs
 have h2:(sortZ xs).Nodup:=(jz xs _).nodup_iff.mpr hn
 refine(h1.and h2).imp λ{a b} h=>?_
 exact wX.mpr ⟨of_decide_eq_true h.1,h.2⟩
theorem j6(xs:List Int)(n:Int):n∈sortZ xs↔n∈xs:=(jz xs _).mem_iff
theorem pK(xs:List Int):(sortZ xs).Perm xs:=jz xs _
structure Wd(n:Nat)(L:Int→Int→Prop)(E:List (Int×Int))(Bs:List (List Int))(bp:Int→Nat):Prop where
 tr:∀a b c,L a b→L b c→L a c
 ir:∀a,¬L a a
 ed:∀a b,(a,b)∈E↔a∈rngI n∧b∈rngI n∧a≠b∧¬L b a
 el:E.length≤30
 fw:∀a∈rngI n,∀b∈rngI n,bp a<bp b→L a b
 un:∀(i:Nat)(X:Int→Prop),(∃a∈rngI n,bp a=i∧X a)→(∃a∈rngI n,bp a=i∧¬X a)→∃a∈rngI n,∃b∈rngI n,bp a=i∧bp b=i∧X a∧¬X b∧¬L a b
 bs:∀i B,Bs[i]?=some B→B.Pairwise (·< ·)∧(∀a,a∈B↔a∈rngI n∧bp a=i)∧B≠ []
 bl:∀a∈rngI n,bp a<Bs.length
structure PG(n:Nat)(bp:Int→Nat)(G:List (List Int)):Prop where
 pm:G.flatten.Perm (rngI n)
 so:∀g∈G,g.Pairwise (·< ·)∧g≠ []∧∀a∈g,∀b∈g,bp a=bp b
noncomputable def gR(G:List (List Int))(k:Int):List Int:=G.getD k.toNat []
noncomputable def ft(G:List (List Int))(p:Int):Int:=((rngI G.length).filter λk=>decide (p∈gR G k)).headD 0
noncomputable def hG(G:List (List Int))(E:List (Int×Int))(k:Int):List Int:=(E.filter λe=>decide (ft G e.2=k)&&decide (ft G e.1≠k)).map λe=>ft G e.1
theorem lG{G:List (List Int)}{k:Int}(hk:k∈rngI G.length):gR G k∈G:=by
 have:=dP.mp hk
 unfold gR
 rw[aX,au (vP this)]
 exact iX _
theorem oO(n:Nat):(rngI n).Nodup:=by
 unfold rngI
 exact eZ.mpr (iV.imp λh e=>h (Int.ofNat_inj.mp e))
section
variable{n:Nat}{L:Int→Int→Prop}{E:List (Int×Int)}{Bs:List (List Int)}{bp:Int→Nat}{G:List (List Int)}
theorem PG.nd(P:PG n bp G):G.flatten.Nodup:=P.pm.nodup_iff.mpr (oO n)
theorem qP:∀{G:List (List Int)},G.flatten.Nodup→∀{i j:Nat}{a:Int}{x y:List Int},G[i]?=some x→G[j]?=some y→a∈x→a∈y→i=j
 | [],_,i,j,a,x,y,h,_,_,_=>by simp at h
 |g::G,nd,0,0,a,x,y,h1,h2,h3,h4=>rfl
 |g::G,nd,0,j+1,a,x,y,h1,h2,h3,h4=>by
  rw[iA,bg]at nd
  simp at h1 h2;subst h1
  exact absurd rfl (nd.2.2 a h3 a (kI.mpr ⟨y,dx h2,h4⟩))
 |g::G,nd,i+1,0,a,x,y,h1,h2,h3,h4=>by
  rw[iA,bg]at nd
  simp at h1 h2;subst h2
  exact absurd rfl (nd.2.2 a h4 a (kI.mpr ⟨x,dx h1,h3⟩))
 |g::G,nd,i+1,j+1,a,x,y,h1,h2,h3,h4=>by
  rw[iA,bg]at nd
  have h1':G[i]?=some x:=by simpa using h1
  have h2':G[j]?=some y:=by simpa using h2
  exact congrArg (·+1) (qP nd.2.1 h1' h2' h3 h4)
theorem tw{k:Int}(hk:k∈rngI G.length):G[k.toNat]?=some (gR G k):=by
 have:=dP.mp hk
 unfold gR
 rw[aX,au (vP this)];rfl
theorem PG.uniq(P:PG n bp G){j k:Int}{a:Int}(hj:j∈rngI G.length)(hk:k∈rngI G.length)(h1:a∈gR G j)(h2:a∈gR G k):j=k:=by
 have:=qP P.nd (tw hj) (tw hk) h1 h2
 exact(A6 (dP.mp hj).1).trans ((congrArg (λz:Nat=>(z:Int)) this).trans (A6 (dP.mp hk).1).symm)
theorem PG.home(P:PG n bp G){a:Int}(ha:a∈rngI n):ft G a∈rngI G.length∧a∈gR G (ft G a):=by
 have h1:=P.pm.mem_iff.mpr ha
 obtain⟨g,hg,hag⟩:=kI.mp h1
 obtain⟨i,hi,e⟩:=md.mp hg
 have hm:(i:Int)∈(rngI G.length).filter λk=>decide (a∈gR G k):=by
  refine aO.mpr ⟨dP.mpr ⟨aN i,dm.mpr hi⟩,?_⟩
  have:gR G (i:Int)=g:=by unfold gR;simp[hi,e]
  rw[this];simpa using hag
 unfold ft
 cases hf:(rngI G.length).filter λk=>decide (a∈gR G k)with
 |nil=>rw[hf]at hm;cases hm
 |cons y t=>
  have hy:y∈(rngI G.length).filter λk=>decide (a∈gR G k):=by rw[hf];simp
  obtain⟨h2,h3⟩:=aO.mp hy
  exact⟨h2,by simpa using h3⟩
theorem PG.home_eq(P:PG n bp G){a k:Int}(ha:a∈rngI n)(hk:k∈rngI G.length):ft G a=k↔a∈gR G k:=by
 obtain⟨h1,h2⟩:=P.home ha
 constructor
 ·intro e;rw[←e];exact h2
 ·intro h;exact P.uniq h1 hk h2 h
theorem PG.pl(P:PG n bp G){a k:Int}(hk:k∈rngI G.length)(h:a∈gR G k):a∈rngI n:=P.pm.mem_iff.mp (kI.mpr ⟨_,lG hk,h⟩)
theorem rS(W:Wd n L E Bs bp)(P:PG n bp G){p k:Int}(hp:p∈rngI G.length)(hk:k∈rngI G.length):p∈hG G E k↔p≠k∧∃a∈gR G p,∃b∈gR G k,¬L b a:=by
 unfold hG
 rw[ay]
 constructor
 ·rintro⟨⟨a,b⟩,h1,rfl⟩
  obtain⟨h2,h3⟩:=aO.mp h1
  simp only[bv,decide_eq_true_eq]at h3
  obtain⟨e1,e2,e3,e4⟩:=(W.ed a b).mp h2
  refine⟨h3.2,a,(P.home e1).2,b,?_,e4⟩
  rw[←h3.1];exact(P.home e2).2
 ·rintro⟨h1,a,ha,b,hb,hl⟩
  have pa:=P.pl hp ha;have pb:=P.pl hk hb
  have ea:=(P.home_eq pa hp).mpr ha;have eb:=(P.home_eq pb hk).mpr hb
  refine⟨(a,b),aO.mpr ⟨(W.ed a b).mpr ⟨pa,pb,?_,hl⟩,?_⟩,ea⟩
  ·rintro rfl;exact h1 (ea.symm.trans eb)
  ·simp only[bv,decide_eq_true_eq]
   exact⟨eb,by rw[ea];exact h1⟩
theorem PG.hg(W:Wd n L E Bs bp)(P:PG n bp G):HG (hG G E) G.length:=by
 refine⟨λk hk p hp=>?_,λk hk hp=>?_,λk=>?_⟩
 ·obtain⟨⟨a,b⟩,h1,rfl⟩:=ay.mp hp
  exact(P.home ((W.ed a b).mp (aO.mp h1).1).1).1
 ·obtain⟨⟨a,b⟩,h1,e⟩:=ay.mp hp
  have:=(aO.mp h1).2
  simp only[bv,decide_eq_true_eq]at this
  exact this.2 e
 ·unfold hG
  rw[aj]
  exact ac (bj _ _) W.el
noncomputable def gb(bp:Int→Nat)(G:List (List Int))(k:Int):Nat:=bp ((gR G k).headD 0)
theorem PG.gb_eq(P:PG n bp G){k a:Int}(hk:k∈rngI G.length)(h:a∈gR G k):bp a=gb bp G k:=by
 obtain⟨_,h2,h3⟩:=P.so _ (lG hk)
 unfold gb
 cases hg:gR G k with
 |nil=>exact absurd hg h2
 |cons y t=>exact h3 a h y (by rw[hg];simp)
theorem PG.ex(P:PG n bp G){k:Int}(hk:k∈rngI G.length):∃a,a∈gR G k:=by
 obtain⟨_,h2,_⟩:=P.so _ (lG hk)
 cases hg:gR G k with
 |nil=>exact absurd hg h2
 |cons y t=>exact⟨y,by simp⟩
theorem yn(W:Wd n L E Bs bp)(P:PG n bp G){p k:Int}(hp:p∈rngI G.length)(hk:k∈rngI G.length)(h:p∈hG G E k):gb bp G p≤gb bp G k:=by
 obtain⟨_,a,ha,b,hb,hl⟩:=(rS W P hp hk).mp h
 rw[←P.gb_eq hp ha,←P.gb_eq hk hb]
 exact bZ λc=>hl (W.fw b (P.pl hk hb) a (P.pl hp ha) c)
theorem yo(W:Wd n L E Bs bp)(P:PG n bp G){p k:Int}(hp:p∈rngI G.length)(hk:k∈rngI G.length)(h:gb bp G p<gb bp G k):p∈hG G E k:=by
 obtain⟨a,ha⟩:=P.ex hp
 obtain⟨b,hb⟩:=P.ex hk
 refine(rS W P hp hk).mpr ⟨λe=>by rw[e]at h;exact dh _ h,a,ha,b,hb,λhl=>?_⟩
 have:=W.fw a (P.pl hp ha) b (P.pl hk hb) (by rw[P.gb_eq hp ha,P.gb_eq hk hb];exact h)
 exact W.ir a (W.tr _ _ _ this hl)
theorem qI(W:Wd n L E Bs bp)(P:PG n bp G){k:Int}(hk:k∈rngI G.length){B:List Int}(hB:Bs[gb bp G k]?=some B)(hne:B∉G):∃p∈rngI G.length,p∈hG G E k∧gb bp G p=gb bp G k:=by
 obtain⟨b1,b2,b3⟩:=W.bs _ _ hB
 obtain⟨s1,s2,s3⟩:=P.so _ (lG hk)
 obtain⟨a0,ha0⟩:=P.ex hk
 have hsub:∀a∈gR G k,a∈B:=λa ha=>(b2 a).mpr ⟨P.pl hk ha,P.gb_eq hk ha⟩
 have hex:∃y∈B,y∉gR G k:=by
  by_cases q:∃y∈B,y∉gR G k
  ·exact q
  ·exfalso
   apply hne
   have:B=gR G k:=lt_unique _ _ b1 s1 λy=>⟨λhy=>by
    by_cases c:y∈gR G k
    ·exact c
    ·exact absurd ⟨y,hy,c⟩ q,hsub y⟩
   rw[this];exact lG hk
 obtain⟨y,hy,hyn⟩:=hex
 obtain⟨a,ha,b,hb,e1,e2,x1,x2,hl⟩:=W.un (gb bp G k) (λz=>z∈gR G k) ⟨a0,P.pl hk ha0,P.gb_eq hk ha0,ha0⟩ ⟨y,((b2 y).mp hy).1,((b2 y).mp hy).2,hyn⟩
 obtain⟨h1,h2⟩:=P.home hb
 refine⟨ft G b,h1,(rS W P h1 hk).mpr ⟨λe=>x2 (e▸h2),b,h2,a,x1,hl⟩,?_⟩
 rw[←P.gb_eq h1 h2,e2]
end
noncomputable def gsOf(G:List (List Int)):List (List Int)→List Int
 | []=>[]
 |B::Bs=>if B∈G then((G.idxOf B:Nat):Int)::gsOf G Bs else []
section
variable{n:Nat}{L:Int→Int→Prop}{E:List (Int×Int)}{Bs:List (List Int)}{bp:Int→Nat}{G:List (List Int)}
theorem xX{B:List Int}(h:B∈G):((G.idxOf B:Nat):Int)∈rngI G.length∧gR G ((G.idxOf B:Nat):Int)=B:=by
 have hl:=bh h
 refine⟨dP.mpr ⟨aN _,dm.mpr hl⟩,?_⟩
 unfold gR
 rw[c7,aX,au hl,cf];rfl
theorem PG.at_i(W:Wd n L E Bs bp)(P:PG n bp G){i:Nat}{B:List Int}(hB:Bs[i]?=some B)(h:B∈G):gb bp G ((G.idxOf B:Nat):Int)=i∧∀k∈rngI G.length,gb bp G k=i→k=((G.idxOf B:Nat):Int):=by
 obtain⟨h1,h2⟩:=xX h
 obtain⟨_,b2,b3⟩:=W.bs _ _ hB
 obtain⟨a,ha⟩:=P.ex h1
 have hab:a∈B:=h2▸ha
 refine⟨by rw[←P.gb_eq h1 ha];exact((b2 a).mp hab).2,λk hk e=>?_⟩
 obtain⟨b,hb⟩:=P.ex hk
 have hbB:b∈B:=(b2 b).mpr ⟨P.pl hk hb,by rw[P.gb_eq hk hb,e]⟩
 exact P.uniq hk h1 hb (by rw[h2];exact hbB)
theorem AA(W:Wd n L E Bs bp)(P:PG n bp G):∀(suf:List (List Int))(i:Nat)(order:List Int),Bs.drop i=suf→(∀k∈rngI G.length,k∈order↔gb bp G k<i)→xu (hG G E) G.length order (gsOf G suf):=by
 intro xs_
 induction xs_ with
 |nil=>
  intro i order hs ho
  intro k hk hno
  exfalso
  obtain⟨a,ha⟩:=P.ex hk
  have h1:=W.bl a (P.pl hk ha)
  rw[P.gb_eq hk ha]at h1
  have h2:Bs.length≤i:=by simpa using List.drop_eq_nil_iff.mp hs
  exact hno ((ho k hk).mpr (aE h1 h2))
 |cons B suf ih=>
  intro i order hs ho
  have hB:Bs[i]?=some B:=by
   have:=congrArg (λl=>l[0]?) hs
   simpa using this
  have hs2:Bs.drop (i+1)=suf:=by
   have:=congrArg (List.drop 1) hs
   rw[Bx]at this
   simpa[bu]using this
  have H:=PG.hg W P
  unfold gsOf
  by_cases c:B∈G
  ·rw[if_pos c]
   obtain⟨g1,g2⟩:=P.at_i W hB c
   obtain⟨h1,_⟩:=xX c
   refine⟨h1,λz=>cR ((ho _ h1).mp z) g1,λp hp=>?_,λk hk hno hne=>?_,?_⟩
   ·have hp1:=H.cls _ h1 p hp
    have hle:=yn W P hp1 h1 hp
    refine(ho p hp1).mpr ?_
    rcases Nat.lt_or_ge (gb bp G p) i with q|q
    ·exact q
    ·exfalso
     have:=g2 p hp1 (fR (g1▸hle) q)
     rw[this]at hp
     exact H.irr _ h1 hp
   ·have:¬gb bp G k<i:=λz=>hno ((ho k hk).mpr z)
    exact⟨_,yo W P h1 hk (eQ (ac (ax g1) (bZ this)) λz=>hne (g2 k hk (z.symm.trans g1))),λz=>cR ((ho _ h1).mp z) g1⟩
   ·refine ih (i+1) _ hs2 λk hk=>?_
    rw[aL,ho k hk,hV]
    constructor
    ·rintro(q|q)
     ·exact iE q
     ·rw[q,g1];exact ct _
    ·intro q
     by_cases e:gb bp G k=i
     ·exact .inr (g2 k hk e)
     ·exact .inl (eQ (cM q) e)
  ·rw[if_neg c]
   intro k hk hno
   have hge:¬gb bp G k<i:=λz=>hno ((ho k hk).mpr z)
   by_cases e:gb bp G k=i
   ·obtain⟨p,p1,p2,p3⟩:=qI W P hk (by rw[e];exact hB) c
    exact⟨p,p2,λz=>cR ((ho p p1).mp z) (p3.trans e)⟩
   ·obtain⟨_,b2,b3⟩:=W.bs _ _ hB
    obtain⟨a,ha⟩:∃a,a∈B:=by
     cases B with
     |nil=>exact absurd rfl b3
     |cons a t=>exact⟨a,by simp⟩
    obtain⟨a1,a2⟩:=(b2 a).mp ha
    obtain⟨h1,h2⟩:=P.home a1
    have hgb:gb bp G (ft G a)=i:=by rw[←P.gb_eq h1 h2,a2]
    exact⟨_,yo W P h1 hk (eQ (ac (ax hgb) (bZ hge)) λz=>e (z.symm.trans hgb)),λz=>cR ((ho _ h1).mp z) hgb⟩
theorem v7(h:Int→List Int)(m:Nat):∃S,SG S h (rngI m):=by
 induction m with
 |zero=>exact⟨_,SG.nil h⟩
 |succ m ih=>obtain⟨S,g⟩:=ih;rw[qF];exact⟨_,g.add m⟩
theorem uP(W:Wd n L E Bs bp)(P:PG n bp G)(r:fh (hG G E) G.length .none):∀B∈Bs,B∈G:=by
 intro B hB
 by_cases c:B∈G
 ·exact c
 ·exfalso
  obtain⟨i,hi,e⟩:=md.mp hB
  have hBi:Bs[i]?=some B:=by rw[au hi,e]
  have H:=PG.hg W P
  obtain⟨S,g⟩:=v7 (hG G E) G.length
  obtain⟨_,b2,b3⟩:=W.bs _ _ hBi
  obtain⟨a,ha⟩:∃a,a∈B:=by
   cases B with
   |nil=>exact absurd rfl b3
   |cons a t=>exact⟨a,by simp⟩
  obtain⟨a1,a2⟩:=(b2 a).mp ha
  obtain⟨h1,h2⟩:=P.home a1
  have key:∀k,∃v∈rngI G.length,gb bp G v=i∧Lv S k v:=by
   intro k
   induction k with
   |zero=>exact⟨_,h1,by rw[←P.gb_eq h1 h2,a2],(g.gw.mem _).mpr ((nam_mem H).mpr h1)⟩
   |succ k ih=>
    obtain⟨v,v1,v2,v3⟩:=ih
    obtain⟨p,p1,p2,p3⟩:=qI W P v1 (by rw[v2];exact hBi) c
    exact⟨p,p1,by rw[p3,v2],(g.gw.mem p).mpr ((nam_mem H).mpr p1),v,(g.gw.edg p v).mpr ⟨v1,p2⟩,v3⟩
  obtain⟨v,v1,_,v3⟩:=key G.length
  have hv:v∈gn (hG G E) G.length:=(left_iff H g _ v).mpr v3
  cases r with
  |no e=>
   have:=dC.mp e v ((nam_mem H).mpr v1)
   exact this (by simpa using hv)
theorem y7:∀{Bs:List (List Int)},(∀B∈Bs,B∈G)→(gsOf G Bs).length=Bs.length:=by
 intro xs_
 induction xs_ with
 |nil=>
  intro _
  exact rfl
 |cons B Bs ih=>
  intro h
  unfold gsOf
  rw[if_pos (h B (by simp)),aD,aD,ih λB' hB'=>h B' (by simp[hB'])]
structure Bn(h:Int→List Int)(m:Nat)(R:List Int):Prop where
 nd:(R.drop 1).Nodup
 sub:∀v∈R,v∈rngI m
 mem:∀v,v∈R↔v∈R.drop 1
 two:2≤(R.drop 1).length
 flat:∀f:Int→Nat,(∀p∈rngI m,∀k∈rngI m,p∈h k→f p≤f k)→∀a∈R,∀b∈R,f a=f b
theorem yI{h:Int→List Int}{m:Nat}(H:HG h m){R:List Int}(r:fh h m (.lst (R.map .int))):Bn h m R:=by
 have inj:∀xs ys:List Int,xs.map V.int=ys.map .int→xs=ys:=λxs=>by
  induction xs with
  |nil=>intro ys e;cases ys<;>simp at e;rfl
  |cons x xs ih=>
   intro ys e
   cases ys with
   |nil=>simp at e
   |cons y ys=>simp only[ar,iR,V.int.injEq]at e;rw[e.1,ih ys e.2]
 generalize hv:V.lst (R.map .int)=v at r
 cases r with
 |no e=>cases hv
 |yes r t R' e w=>
  have:=inj R R' (V.lst.inj hv)
  subst this
  obtain⟨k,nd,hk,eR⟩:=w
  have hrl:r∈gn h m:=by
   have:r∈firstL h m:=by rw[e];simp
   simpa using (aO.mp this).2
  have hw:∀j,walkI (cx h m) r j∈gn h m:=λj=>by
   induction j with
   |zero=>exact hrl
   |succ j ih=>exact(kt ih).choose_spec.2
  have hx:∀j,walkI (cx h m) r j∈rngI m:=λj=>iC m _ (hw j)
  have arc:∀j,walkI (cx h m) r j∈h (walkI (cx h m) r (j+1)):=λj=>by
   obtain⟨t,et,_⟩:=kt (hw j)
   have:cx h m (walkI (cx h m) r j)∈(h7 h (rngI m) (walkI (cx h m) r j)).filter (λl=>decide (l∈gn h m)):=by rw[et];simp
   have:=(aO.mp (aO.mp this).1).2
   exact(show _∈h (cx h m (walkI (cx h m) r j)) by simpa using this)
  generalize hwalk:walkI (cx h m) r=x at*
  have etr:kO (cx h m) r k=(az k).map x:=by unfold kO;rw[hwalk]
  rw[etr]at nd hk eR
  have hil:=bh hk
  have hix:=cf hil
  generalize hi:((az k).map x).idxOf (x k)=i at*
  rw[aj,aK]at hil
  have hix2:x i=x k:=by simpa using hix
  have hinj:∀a b,a<k→b<k→x a=x b→a=b:=λa b ha hb e=>by
   have h1:((az k).map x)[a]?=some (x a):=by simp[ha]
   have h2:((az k).map x)[b]?=some (x a):=by simp[hb,e]
   exact(List.getElem?_inj (by simpa using ha) nd).mp (h1.trans h2.symm)
  have eR2:R=(bn i (k - i)).map x++[x k]:=by
   rw[eR,←i4,vB,List.drop_range']
   simp
  obtain⟨d,rfl⟩:=d0 (show i+1≤k from hil)
  have hd:i+1+d - i=d+1:=by rw[bK,Nat.add_sub_cancel_left,bu]
  have eT:R.drop 1=(bn (i+1) d).map x++[x i]:=by
   rw[eR2,hd,kH,ar,dq,List.drop_succ_cons,List.drop_zero,hix2]
  have eR3:R=x i::R.drop 1:=by
   rw[eT]
   rw[eR2,hd,kH,ar,dq,hix2]
  have hmem:∀v,v∈R↔v∈R.drop 1:=λv=>by
   constructor
   ·intro hv
    rw[eR3]at hv
    rcases am.mp hv with rfl|hv
    ·rw[eT];simp
    ·exact hv
   ·intro hv;exact mc hv
  have hsub:∀v∈R,∃j,i≤j∧j≤i+1+d∧v=x j:=λv hv=>by
   rw[eR2]at hv
   rcases aL.mp hv with hv|hv
   ·obtain⟨j,hj,rfl⟩:=ay.mp hv
    have:=bc.mp hj
    exact⟨j,this.1,dD (rin this),rfl⟩
   ·simp at hv;exact⟨_,ac (gC i) (aM _ _),b8 _,hv⟩
  refine⟨?_,λv hv=>(by obtain⟨j,_,_,rfl⟩:=hsub v hv;exact hx j),hmem,?_,λf hf=>?_⟩
  ·rw[eT,bg]
   refine⟨eZ.mpr ?_,by simp,λa ha b hb=>?_⟩
   ·refine(zv (s:=i+1) (n:=d)).imp_of_mem λ{a b} ha hb hne e=>hne ?_
    exact hinj a b (bc.mp ha).2 (bc.mp hb).2 e
   ·simp at hb;subst hb
    obtain⟨j,hj,rfl⟩:=ay.mp ha
    have:=bc.mp hj
    exact λe=>e9 this.1 (hinj j i this.2 (aE (ct i) (aM _ _)) e)
  ·rw[eT]
   simp only[aJ,aj,nk,lP]
   rcases d with _|d
   ·exfalso
    have:=arc i
    rw[←hix2]at this
    exact H.irr _ (hx i) this
   ·exact cP 2 d
  ·have up:∀e j,f (x j)≤f (x (j+e)):=λe=>by
    induction e with
    |zero=>intro j;exact b8 _
    |succ e ih=>intro j;exact ac (ih j) (hf _ (hx _) _ (hx _) (arc (j+e)))
   have all:∀v∈R,f v=f (x i):=λv hv=>by
    obtain⟨j,h1,h2,rfl⟩:=hsub v hv
    obtain⟨a,rfl⟩:=d0 h1
    obtain⟨b,hb⟩:=d0 h2
    have u1:=up a i
    have u2:=up b (i+a)
    rw[←hb,←hix2]at u2
    exact fR u2 u1
   intro a ha b hb
   rw[all a ha,all b hb]
noncomputable def melt(G:List (List Int))(R:List Int):List (List Int):=((rngI G.length).filter λk=>decide (k∉R)).map (gR G)++[sortZ ((R.drop 1).flatMap (gR G))]
theorem vd(G:List (List Int)):(rngI G.length).map (gR G)=G:=by
 apply kc
 intro i
 by_cases h:i<G.length
 ·simp[rngI,gR,h]
 ·simp[rngI,gR,h]
theorem PG.melt(W:Wd n L E Bs bp)(P:PG n bp G){R:List Int}(r:Bn (hG G E) G.length R):PG n bp (melt G R)∧(Mine.melt G R).length+1≤G.length:=by
 have hp:(((rngI G.length).filter λk=>decide (k∉R))++R.drop 1).Perm (rngI G.length):=by
  refine(qY ?_ (oO _)).mpr λk=>?_
  ·rw[bg]
   refine⟨(oO _).filter _,r.nd,λa ha b hb=>?_⟩
   have:=(aO.mp ha).2
   rintro rfl
   exact(by simpa using this:a∉R) ((r.mem a).mpr hb)
  ·rw[aL,aO]
   constructor
   ·rintro(h|h)
    ·exact h.1
    ·exact r.sub k ((r.mem k).mpr h)
   ·intro h
    by_cases c:k∈R
    ·exact .inr ((r.mem k).mp c)
    ·exact .inl ⟨h,by simpa using c⟩
 have hlen:=hp.length_eq
 rw[aJ,dj]at hlen
 have two:=r.two
 have hfm:((rngI G.length).flatMap (gR G))=G.flatten:=by rw[zJ,vd]
 have hps:=hp.flatMap_right (gR G)
 rw[wU,hfm]at hps
 have hnd:((R.drop 1).flatMap (gR G)).Nodup:=(bg.mp (hps.nodup_iff.mpr P.nd)).2.1
 refine⟨⟨?_,λg hg=>?_⟩,?_⟩
 ·refine vF ?_ P.pm
  refine vF ?_ hps
  unfold Mine.melt
  rw[wT,←zJ]
  refine GL _ ?_
  simpa using pK ((R.drop 1).flatMap (gR G))
 ·rcases aL.mp hg with hg|hg
  ·obtain⟨k,hk,rfl⟩:=ay.mp hg
   exact P.so _ (lG (aO.mp hk).1)
  ·simp only[hV]at hg
   subst hg
   refine⟨sortZ_lt _ hnd,λe=>?_,λa ha b hb=>?_⟩
   ·cases ht:R.drop 1 with
    |nil=>rw[ht]at two;simp at two
    |cons y t=>
     have hy:y∈rngI G.length:=r.sub y ((r.mem y).mpr (by rw[ht];simp))
     obtain⟨a,ha⟩:=P.ex hy
     have:a∈sortZ ((R.drop 1).flatMap (gR G)):=(j6 _ _).mpr (dM.mpr ⟨y,by rw[ht];simp,ha⟩)
     rw[e]at this;cases this
   ·obtain⟨k,hk,ha⟩:=dM.mp ((j6 _ _).mp ha)
    obtain⟨j,hj,hb⟩:=dM.mp ((j6 _ _).mp hb)
    have hk':=r.sub k ((r.mem k).mpr hk);have hj':=r.sub j ((r.mem j).mpr hj)
    rw[P.gb_eq hk' ha,P.gb_eq hj' hb]
    exact r.flat (gb bp G) (λp hp k hk h=>yn W P hp hk h) k ((r.mem k).mpr hk) j ((r.mem j).mpr hj)
 ·unfold Mine.melt
  rw[aJ,aj,lP]
  exact ac (dF two _) (ax hlen)
end
theorem vg(p:Int×Int):gX p p=false:=by unfold gX;rw[if_pos rfl];simp
theorem oP{p q:Int×Int}:gX p q=true↔p.1<q.1∨p.1=q.1∧p.2<q.2:=by
 unfold gX
 by_cases c:p.1=q.1
 ·rw[if_pos c,decide_eq_true_eq];exact⟨λh=>.inr ⟨c,h⟩,λh=>h.elim (λz=>absurd c (Int.ne_of_lt z)) (·.2)⟩
 ·rw[if_neg c,decide_eq_true_eq];exact⟨.inl,λh=>h.elim id λz=>absurd z.1 c⟩
theorem Cm{p q r:Int×Int}(h1:gX p q=true)(h2:gX q r=true):gX p r=true:=
 oP.mpr ((oP.mp h1).elim (λa=>(oP.mp h2).elim (λb=>.inl (oC a b)) λb=>.inl (b.1▸a)) λa=>(oP.mp h2).elim (λb=>.inl (a.1▸b)) λb=>.inr ⟨a.1.trans b.1,oC a.2 b.2⟩)
theorem lex_tot{p q:Int×Int}(h:p≠q):gX p q=true∨gX q p=true:=by
 unfold gX
 by_cases c:p.1=q.1
 ·rw[if_pos c,if_pos c.symm]
  have:p.2≠q.2:=λe=>h (Bp c e)
  simp only[decide_eq_true_eq];exact zD this
 ·rw[if_neg c,if_neg (aS c)]
  simp only[decide_eq_true_eq];exact zD c
theorem j8{α:Type}{p q:α→Bool}(h:∀x,p x=true→q x=true):∀{l:List α}{x:α},x∈l→q x=true→p x=false→(l.filter p).length<(l.filter q).length:=by
 intro xs_
 induction xs_ with
 |nil=>
  intro x hx _ _
  cases hx
 |cons y l IH=>
  intro x hx h1 h2
  have le:∀l:List α,(l.filter p).length≤(l.filter q).length:=λl=>by
   induction l with
   |nil=>exact b8 _
   |cons z l ih=>
    rw[aU,aU]
    cases hp:p z with
    |true=>rw[h z hp];simpa using ih
    |false=>cases q z with|true=>exact cu ih|false=>exact ih
  rw[aU,aU]
  rcases am.mp hx with rfl|hx
  ·rw[h1,h2]
   exact c0 (le l)
  ·have ih:=IH hx h1 h2
   cases hp:p y with
   |true=>rw[h y hp];simpa using ih
   |false=>cases q y with|true=>exact iE ih|false=>exact ih
section
variable{ps:List (Int×Int)}
noncomputable def rk(ps:List (Int×Int))(i:Nat):Nat:=((az ps.length).filter λj=>tX ps j i).length
theorem getD_ne(nd:ps.Nodup){i j:Nat}(hi:i<ps.length)(hj:j<ps.length)(h:i≠j):ps.getD i (0,0)≠ps.getD j (0,0):=by
 rw[aX,aX,au hi,au hj]
 exact λe=>h ((zI nd).mp e)
theorem rk_lt(nd:ps.Nodup){i j:Nat}(hi:i<ps.length)(h:tX ps i j=true):rk ps i<rk ps j:=
 j8 (λx hx=>Cm hx h) (aW.mpr hi) h (vg _)
theorem Cb(nd:ps.Nodup){i j:Nat}(hi:i<ps.length)(hj:j<ps.length):tX ps i j=decide (rk ps i<rk ps j):=by
 cases h:tX ps i j with
 |true=>exact(decide_eq_true (rk_lt nd hi h)).symm
 |false=>
  symm;rw[decide_eq_false_iff_not]
  by_cases c:i=j
  ·rw[c];exact dh _
  ·rcases lex_tot (getD_ne nd hi hj c)with q|q
   ·have:tX ps i j=true:=q
    rw[h]at this;cases this
   ·exact cK (dD (rk_lt nd hj q))
theorem rk_n{i:Nat}(hi:i<ps.length):rk ps i<ps.length:=by
 have:=j8 (p:=λj=>tX ps j i) (q:=λz=>true) (λz z=>rfl) (aW.mpr hi) rfl (vg _)
 rw[cm.mpr (λz z=>rfl),aK]at this
 exact this
theorem vc{x:Nat}:∀(s t:List Nat),s++x::t∈CK x (s++t)
 | [],[]=>by simp[CK]
 | [],y::t=>by simp[CK]
 |y::s,t=>by
  show y::(s++x::t)∈_
  rw[dq,CK]
  exact aq _ (ay.mpr ⟨_,vc s t,rfl⟩)
theorem wj:∀(xs l:List Nat),l.Perm xs→l∈perms xs:=by
 intro xs_
 induction xs_ with
 |nil=>
  intro l h
  rw[List.perm_nil.mp h];simp[perms]
 |cons x xs ih=>
  intro l h
  obtain⟨s,t,rfl⟩:=List.append_of_mem (h.mem_iff.mpr (by simp:x∈x::xs))
  have h2:(s++t).Perm xs:=GK ((List.perm_middle.symm).trans h)
  exact dM.mpr ⟨_,ih _ h2,vc s t⟩
noncomputable def ranks(ps:List (Int×Int)):List Nat:=(az ps.length).map (rk ps)
theorem qG{i:Nat}(hi:i<ps.length):(ranks ps).getD i 0=rk ps i:=by simp[ranks,hi]
theorem te{xs:List Nat}{n:Nat}(nd:xs.Nodup)(hl:xs.length=n)(hs:∀x∈xs,x<n):xs.Perm (az n):=by
 refine(qY nd iV).mpr λk=>⟨λh=>aW.mpr (hs k h),λh=>?_⟩
 by_cases c:k∈xs
 ·exact c
 ·exfalso
  have:=gK (k::xs) (az n) (aP.mpr ⟨c,nd⟩) λx hx=>by
   rcases am.mp hx with rfl|hx
   ·exact h
   ·exact aW.mpr (hs x hx)
  rw[aK,aD,hl]at this;exact fe _ this
theorem ranks_perm(nd:ps.Nodup):(ranks ps).Perm (az ps.length):=by
 refine te ?_ (by simp[ranks]) λx hx=>?_
 ·unfold ranks
  refine eZ.mpr (iV.imp_of_mem λ{a b} ha hb hne e=>?_)
  have ha':=aW.mp ha;have hb':=aW.mp hb
  rcases lex_tot (getD_ne nd ha' hb' hne)with q|q
  ·exact cR (rk_lt nd ha' q) e
  ·exact e9 (rk_lt nd hb' q) e
 ·obtain⟨i,hi,rfl⟩:=ay.mp hx
  exact rk_n (aW.mp hi)
theorem pM{α:Type}{n:Nat}{lt lt':Nat→Nat→Bool}(h:∀i j,i<n→j<n→lt i j=lt' i j):∀t:KasT α,w4 n lt' t=true→kRun lt t=kRun lt' t∧w4 n lt t=true
 | .ret a,_=>⟨rfl,rfl⟩
 | .ask i j k,hi=>by
   have hi':(decide (i<n)&&decide (j<n)&&w4 n lt' (k (lt' i j)))=true:=hi
   rw[bv,bv,decide_eq_true_eq,decide_eq_true_eq]at hi'
   have e:=h i j hi'.1.1 hi'.1.2
   obtain⟨a,b⟩:=pM h (k (lt' i j)) hi'.2
   refine⟨?_,?_⟩
   ·show kRun lt (k (lt i j))=kRun lt' (k (lt' i j))
    rw[e];exact a
   ·show(decide (i<n)&&decide (j<n)&&w4 n lt (k (lt i j)))=true
    rw[e,b,decide_eq_true hi'.1.1,decide_eq_true hi'.1.2];rfl
theorem Ai{n:Nat}(hn:n=4∨n=5∨n=6){r:List Nat}(h:r.Perm (az n)):po n r=true:=by
 have:=wj _ _ h
 rcases hn with rfl|rfl|rfl
 ·exact bY.mp ok4 r this
 ·exact bY.mp ok5 r this
 ·exact bY.mp ok6 r this
theorem sortP_spec(nd:ps.Nodup)(hn:ps.length=4∨ps.length=5∨ps.length=6):w4 ps.length (tX ps) (kas_sort ps.length)=true∧(∀i∈(kRun (tX ps) (kas_sort ps.length)).toList,i<ps.length)∧(sortP ps).Perm ps∧(sortP ps).Pairwise (λa b=>gX a b=true):=by
 have hR:=ranks_perm nd
 have hs:=Ai hn hR
 unfold po at hs
 rw[bv,bv,beq_iff_eq]at hs
 obtain⟨⟨s1,s2⟩,s3⟩:=hs
 have hlt:∀i j,i<ps.length→j<ps.length→tX ps i j=rkLt (ranks ps) i j:=λi j hi hj=>by
  rw[Cb nd hi hj];unfold rkLt;rw[qG hi,qG hj]
 obtain⟨c1,c2⟩:=pM hlt _ s1
 refine⟨c2,?_,?_⟩
 ·rw[c1];intro i hi;simpa using bY.mp s2 i hi
 unfold sortP
 rw[c1]
 generalize (kRun (rkLt (ranks ps)) (kas_sort ps.length)).toList=p at*
 have hp:∀i∈p,i<ps.length:=λi hi=>by simpa using bY.mp s2 i hi
 have hlen:p.length=ps.length:=by have:=congrArg pI s3;simpa using this
 have hnd:p.Nodup:=by
  have:(p.map λi=>(ranks ps).getD i 0).Nodup:=by rw[s3];exact iV
  exact(eZ.mp this).imp λh e=>h (by rw[e])
 have hpm:=te hnd hlen hp
 refine⟨?_,?_⟩
 ·refine(hpm.map λi=>ps.getD i (0,0)).trans (GI ?_)
  apply kc
  intro i
  by_cases c:i<ps.length
  ·simp[c]
  ·simp[c]
 ·refine eZ.mpr ?_
  have h1:(p.map λi=>(ranks ps).getD i 0).Pairwise (·< ·):=by rw[s3];exact tR
  refine(eZ.mp h1).imp_of_mem λ{a b} ha hb h=>?_
  have h2:rkLt (ranks ps) a b=true:=decide_eq_true h
  rw[←hlt a b (hp a ha) (hp b hb)]at h2
  exact h2
end
noncomputable def cnt'(cuts:List Nat)(x:Nat):Nat:=(cuts.filter λc=>decide (c≤x)).length
theorem yh:∀(cuts:List Nat),cuts.Pairwise (·< ·)→∀(k x c:Nat),cuts[k]?=some c→(c≤x↔k<cnt' cuts x):=by
 intro xs_
 induction xs_ with
 |nil=>
  intro _ k x c h
  cases h
 |cons a cuts IH=>
  intro hp k x c h
  rw[w7]at hp
  unfold cnt'
  rw[aU]
  by_cases q:a≤x
  ·rw[if_pos (by simpa using q),aD]
   cases k with
   |zero=>simp at h;subst h;exact⟨λy=>oA _,λy=>q⟩
   |succ k=>
    have ih:=IH hp.2 k x c (by simpa using h)
    rw[ih];exact Nat.succ_lt_succ_iff.symm
  ·rw[if_neg (by simpa using q)]
   have hz:(cuts.filter λc=>decide (c≤x))=[]:=dC.mpr λb hb z=>q (ac (dD (hp.1 b hb)) (of_decide_eq_true z))
   rw[hz]
   have hc:a≤c:=by
    cases k with
    |zero=>exact ax (m9 h)
    |succ k=>exact dD (hp.1 c (dx (by simpa using h)))
   exact⟨λz=>absurd (ac hc z) q,λz=>absurd z (lO _)⟩
theorem zn(cuts:List Nat){x y:Nat}(h:x≤y):cnt' cuts x≤cnt' cuts y:=by
 unfold cnt'
 induction cuts with
 |nil=>exact b8 _
 |cons a cuts ih=>
  rw[aU,aU]
  by_cases c:a≤x
  ·rw[if_pos (decide_eq_true c),if_pos (decide_eq_true (ac c h))];exact aI ih
  ·rw[if_neg λz=>c (of_decide_eq_true z)]
   split
   ·exact cu ih
   ·exact ih
theorem wH{cuts:List Nat}{x y:Nat}(h:cnt' cuts x<cnt' cuts y):∃c∈cuts,x<c∧c≤y:=by
 by_cases q:∃c∈cuts,x<c∧c≤y
 ·exact q
 ·exfalso
  unfold cnt' at h
  have:∀c∈cuts,decide (c≤y)=true→decide (c≤x)=true:=λc hc hy=>by
   simp only[decide_eq_true_eq]at hy⊢
   by_cases d:c≤x
   ·exact d
   ·exact absurd ⟨c,hc,cS d,hy⟩ q
  have le:∀l:List Nat,(∀c∈l,decide (c≤y)=true→decide (c≤x)=true)→(l.filter λc=>decide (c≤y)).length≤(l.filter λc=>decide (c≤x)).length:=λl=>by
   induction l with
   |nil=>intro _;exact b8 _
   |cons a l ih=>
    intro hl
    have ih:=ih λc hc=>hl c (by simp[hc])
    rw[aU,aU]
    cases hy:decide (a≤y)with
    |true=>rw[hl a (by simp) hy];simpa using ih
    |false=>cases decide (a≤x)with|true=>exact cu ih|false=>exact ih
  exact dh _ (aE h (le cuts this))
theorem pA{ord:List Int}(nd:ord.Nodup){x:Int}{c:Nat}:x∈ord.take c↔x∈ord∧ord.idxOf x<c:=by
 constructor
 ·intro h
  obtain⟨j,hj⟩:=fU.mp h
  rw[nq]at hj
  split at hj
  ·rename_i hlt
   obtain⟨hl,e⟩:=bA.mp hj
   refine⟨dx hj,?_⟩
   rw[←e,nd.idxOf_getElem];exact hlt
  ·cases hj
 ·rintro⟨h1,h2⟩
  have hl:=bh h1
  refine fU.mpr ⟨ord.idxOf x,?_⟩
  rw[nq,if_pos h2,au hl,cf]
theorem pB{ord:List Int}(nd:ord.Nodup){x:Int}{c:Nat}:x∈ord.drop c↔x∈ord∧c≤ord.idxOf x:=by
 constructor
 ·intro h
  obtain⟨j,hj⟩:=fU.mp h
  rw[jM]at hj
  obtain⟨hl,e⟩:=bA.mp hj
  refine⟨dx hj,?_⟩
  rw[←e,nd.idxOf_getElem];exact aM _ _
 ·rintro⟨h1,h2⟩
  have hl:=bh h1
  refine fU.mpr ⟨ord.idxOf x - c,?_⟩
  rw[jM,gh h2,au hl,cf]
theorem qH{ord:List Int}(nd:ord.Nodup){x:Int}{a b:Nat}:x∈(ord.take b).drop a↔x∈ord∧a≤ord.idxOf x∧ord.idxOf x<b:=by
 rw[Bw]
 have nd2:(ord.drop a).Nodup:=nd.sublist (zy _ _)
 constructor
 ·intro h
  have h1:=(pB nd).mp (vC h)
  have h2:=(pA nd2).mp h
  have hl:=bh h1.1
  have:(ord.drop a).idxOf x=ord.idxOf x - a:=by
   have e:(ord.drop a)[ord.idxOf x - a]?=some x:=by
    rw[jM,gh h1.2,au hl,cf]
   obtain⟨hl2,e2⟩:=bA.mp e
   conv=>lhs;rw[←e2]
   exact nd2.idxOf_getElem _ _
  exact⟨h1.1,h1.2,Cj (this▸h2.2)⟩
 ·rintro⟨h1,h2,h3⟩
  have hl:=bh h1
  refine fU.mpr ⟨ord.idxOf x - a,?_⟩
  rw[nq,if_pos (FW h2 h3),jM,gh h2,au hl,cf]
section
variable{n:Nat}{L:Int→Int→Prop}{E:List (Int×Int)}{ord:List Int}{cuts:List Nat}
structure Row(n:Nat)(L:Int→Int→Prop)(ord:List Int)(cuts:List Nat):Prop where
 pm:ord.Perm (rngI n)
 up:∀a∈ord,∀b∈ord,L a b→ord.idxOf a<ord.idxOf b
 inc:cuts.Pairwise (·< ·)
 mem:∀c,c∈cuts↔c≤n∧∀a∈ord.take c,∀b∈ord.drop c,L a b
noncomputable def bpR(ord:List Int)(cuts:List Nat)(a:Int):Nat:=cnt' cuts (ord.idxOf a) - 1
noncomputable def blR(ord:List Int)(cuts:List Nat):List (List Int):=(az (cuts.length - 1)).map λk=>sortZ ((ord.take (cuts.getD (k+1) 0)).drop (cuts.getD k 0))
theorem Row.len(R:Row n L ord cuts):ord.length=n:=by have:=R.pm.length_eq;rwa[dj]at this
theorem Row.zero(R:Row n L ord cuts):0∈cuts:=(R.mem 0).mpr ⟨bx _,λa ha=>by simp at ha⟩
theorem Row.top(R:Row n L ord cuts):n∈cuts:=(R.mem n).mpr ⟨b8 _,λa z b hb=>by rw[tT (by rw[R.len];exact b8 _)]at hb;cases hb⟩
theorem Row.nd(R:Row n L ord cuts):ord.Nodup:=R.pm.nodup_iff.mpr (oO n)
theorem Row.pos(R:Row n L ord cuts){a:Int}(ha:a∈rngI n):a∈ord∧ord.idxOf a<n:=by
 have h:=R.pm.mem_iff.mpr ha
 exact⟨h,by have:=bh h;rwa[R.len]at this⟩
theorem Row.c1(R:Row n L ord cuts)(x:Nat):1≤cnt' cuts x:=by
 unfold cnt'
 exact mI.mpr λe=>by
  have:0∈cuts.filter λc=>decide (c≤x):=aO.mpr ⟨R.zero,by simp⟩
  rw[e]at this;cases this
theorem Row.c2(R:Row n L ord cuts){x:Nat}(h:x<n):cnt' cuts x<cuts.length:=by
 unfold cnt'
 have:=j8 (p:=λc=>decide (c≤x)) (q:=λz=>true) (λz z=>rfl) R.top rfl (decide_eq_false (Nat.not_le_of_lt h))
 rwa[cm.mpr (λz z=>rfl)]at this
theorem Row.fw(R:Row n L ord cuts){a b:Int}(ha:a∈rngI n)(hb:b∈rngI n)(h:bpR ord cuts a<bpR ord cuts b):L a b:=by
 unfold bpR at h
 obtain⟨c,hc,h1,h2⟩:=wH (cuts:=cuts) (x:=ord.idxOf a) (y:=ord.idxOf b) (Al h)
 exact((R.mem c).mp hc).2 a ((pA R.nd).mpr ⟨(R.pos ha).1,h1⟩) b ((pB R.nd).mpr ⟨(R.pos hb).1,h2⟩)
theorem As{ord:List Int}{p:Int→Prop}:∀xs:List Int,(∃a∈xs,p a)→∃a∈xs,p a∧∀b∈xs,p b→ord.idxOf b≤ord.idxOf a:=by
 intro xs_
 induction xs_ with
 |nil=>
  rintro⟨a,h,_⟩
  cases h
 |cons x xs ih=>
  rintro⟨a,h,ha⟩
  by_cases q:∃a∈xs,p a
  ·obtain⟨m,hm,pm,hmax⟩:=ih q
   by_cases c:p x∧ord.idxOf m<ord.idxOf x
   ·refine⟨x,by simp,c.1,λb hb pb=>?_⟩
    rcases am.mp hb with rfl|hb
    ·exact b8 _
    ·exact dD (bM (hmax b hb pb) c.2)
   ·refine⟨m,by simp[hm],pm,λb hb pb=>?_⟩
    rcases am.mp hb with rfl|hb
    ·exact bZ λz=>c ⟨pb,z⟩
    ·exact hmax b hb pb
  ·rcases am.mp h with rfl|h
   ·refine⟨a,by simp,ha,λb hb pb=>?_⟩
    rcases am.mp hb with rfl|hb
    ·exact b8 _
    ·exact absurd ⟨b,hb,pb⟩ q
   ·exact absurd ⟨a,h,ha⟩ q
theorem Row.un(R:Row n L ord cuts)(i:Nat)(X:Int→Prop)(h1:∃a∈rngI n,bpR ord cuts a=i∧X a)(h2:∃a∈rngI n,bpR ord cuts a=i∧¬X a):∃a∈rngI n,∃b∈rngI n,bpR ord cuts a=i∧bpR ord cuts b=i∧X a∧¬X b∧¬L a b:=by
 apply jB
 intro hno
 have all:∀a∈rngI n,∀b∈rngI n,bpR ord cuts a=i→bpR ord cuts b=i→X a→¬X b→L a b:=λa ha b hb e1 e2 x1 x2=>jB λq=>hno ⟨a,ha,b,hb,e1,e2,x1,x2,q⟩
 obtain⟨m,hm,⟨em,xm⟩,hmax⟩:=As (ord:=ord) (p:=λa=>bpR ord cuts a=i∧X a) (rngI n) h1
 obtain⟨y,hy,ey,xy⟩:=h2
 obtain⟨mo,mn⟩:=R.pos hm
 have rise:∀b∈rngI n,bpR ord cuts b=i→¬X b→ord.idxOf m<ord.idxOf b:=λb hb eb xb=>R.up m mo b (R.pos hb).1 (all m hm b hb em eb xm xb)
 have mono:∀a b,ord.idxOf a≤ord.idxOf b→bpR ord cuts a≤bpR ord cuts b:=λa b h=>mA (zn cuts h) 1
 have cut:ord.idxOf m+1∈cuts:=by
  refine(R.mem _).mpr ⟨mn,λa ha b hb=>?_⟩
  obtain⟨ao,ap⟩:=(pA R.nd).mp ha
  obtain⟨bo,bq⟩:=(pB R.nd).mp hb
  have ha':=R.pm.mem_iff.mp ao;have hb':=R.pm.mem_iff.mp bo
  have k1:=mono a m (cM ap)
  have k2:=mono m b (cw bq)
  by_cases c:bpR ord cuts a<bpR ord cuts b
  ·exact R.fw ha' hb' c
  ·have ea:bpR ord cuts a=i:=(fR k1 (ac k2 (bZ c))).trans em
   have eb:bpR ord cuts b=i:=(fR (ac (bZ c) k1) k2).trans em
   have xa:X a:=jB λq=>cK (cM ap) (rise a ha' ea q)
   have xb:¬X b:=λq=>cK (hmax b hb' ⟨eb,q⟩) bq
   exact all a ha' b hb' ea eb xa xb
 have hyr:=rise y hy ey xy
 have k:cnt' cuts (ord.idxOf m)<cnt' cuts (ord.idxOf y):=by
  exact j8 (λx hx=>decide_eq_true (ac (of_decide_eq_true hx) (dD hyr))) cut (decide_eq_true hyr) (decide_eq_false (fe _))
 exact cR (my (R.c1 (ord.idxOf m)) k) (em.trans ey.symm)
theorem Row.bs(R:Row n L ord cuts){i:Nat}{B:List Int}(h:(blR ord cuts)[i]?=some B):B.Pairwise (·< ·)∧(∀a,a∈B↔a∈rngI n∧bpR ord cuts a=i)∧B≠ []:=by
 unfold blR at h
 rw[e7]at h
 obtain⟨k,hk,e⟩:=dA.mp h
 obtain⟨hk1,hk2⟩:=bA.mp hk
 rw[aK]at hk1
 rw[List.getElem_range]at hk2
 subst hk2
 have a1:cuts[i]?=some (cuts.getD i 0):=by rw[aX,au (aE hk1 (ie _ _))];rfl
 have a2:cuts[i+1]?=some (cuts.getD (i+1) 0):=by rw[aX,au (mC hk1)];rfl
 generalize cuts.getD i 0=ca at*
 generalize cuts.getD (i+1) 0=cb at*
 have hmem:∀a,a∈B↔a∈rngI n∧bpR ord cuts a=i:=λa=>by
  rw[←e,j6,qH R.nd,R.pm.mem_iff]
  have k1:=yh cuts R.inc i (ord.idxOf a) ca a1
  have k2:=yh cuts R.inc (i+1) (ord.idxOf a) cb a2
  have k3:=R.c1 (ord.idxOf a)
  unfold bpR
  constructor
  ·rintro⟨h1,h2,h3⟩
   exact⟨h1,wO (fR (bZ λz=>cK (k2.mpr z) h3) (k1.mp h2))⟩
  ·rintro⟨h1,h2⟩
   exact⟨h1,k1.mpr (h2▸Nat.sub_lt k3 Nat.one_pos),cS λz=>cK (wQ (ax h2)) (k2.mp z)⟩
 refine⟨?_,hmem,λeB=>?_⟩
 ·rw[←e]
  exact sortZ_lt _ ((R.nd.sublist (List.take_sublist _ _)).sublist (zy _ _))
 ·have hca:ca<cb:=by
   obtain⟨l1,e1⟩:=bA.mp a1
   obtain⟨l2,e2⟩:=bA.mp a2
   have:=j2.mp R.inc i (i+1) l1 l2 (ct _)
   rwa[e1,e2]at this
  have hcb:cb≤n:=((R.mem cb).mp (dx a2)).1
  have hl:ca<ord.length:=R.len.symm▸aE hca hcb
  have:ord[ca]∈B:=by
   rw[←e,j6,qH R.nd,R.nd.idxOf_getElem]
   exact⟨iX _,b8 _,hca⟩
  rw[eB]at this;cases this
theorem Row.wd(R:Row n L ord cuts)(tr:∀a b c,L a b→L b c→L a c)(ir:∀a,¬L a a)(ed:∀a b,(a,b)∈E↔a∈rngI n∧b∈rngI n∧a≠b∧¬L b a)(el:E.length≤30):Wd n L E (blR ord cuts) (bpR ord cuts):=by
 refine⟨tr,ir,ed,el,λa ha b hb h=>R.fw ha hb h,R.un,λi B h=>R.bs h,λa ha=>?_⟩
 have h1:=R.c2 (R.pos ha).2
 have h2:=R.c1 (ord.idxOf a)
 unfold blR bpR
 rw[aj,aK]
 exact FW h2 h1
end
noncomputable def km(T:Nat)(p:Ln):List V:=(bn 1 T).map λt=>.int (cv p t:Nat)
noncomputable def colsV(ln:Nat→Ln)(n T:Nat):V:=.lst ((az n).map λi=>.lst (km T (ln i)))
noncomputable def gz(ln:Nat→Ln)(n:Nat):List (Int×Int):=(az n).map λi=>(((cv (ln i) 1:Nat):Int),((i:Nat):Int))
noncomputable def ordL(ln:Nat→Ln)(n:Nat):List Int:=(sortP (gz ln n)).map (·.2)
noncomputable def BG(ln:Nat→Ln)(T:Nat)(a b:Int):Prop:=Lf T (ln a.toNat) (ln b.toNat)
noncomputable instance(ln:Nat→Ln)(T:Nat)(a b:Int):Decidable (BG ln T a b):=inferInstanceAs (Decidable (Lf ..))
noncomputable def n9(ln:Nat→Ln)(T:Nat)(ord:List Int)(c:Nat):Bool:=decide (∀a∈ord.take c,∀b∈ord.drop c,BG ln T a b)
noncomputable def cutsL(ln:Nat→Ln)(n T:Nat):List Nat:=(az (n+1)).filter (n9 ln T (ordL ln n))
noncomputable def iM(ln:Nat→Ln)(T:Nat)(a b:Int):List Int:=((bn 1 T).filter λt=>decide (cv (ln b.toNat) t≤cv (ln a.toNat) t)).map λz=>1
noncomputable def n7(ln:Nat→Ln)(T:Nat)(ord:List Int)(c:Nat):List Int:=(ord.take c).flatMap λa=>(ord.drop c).flatMap (iM ln T a)
theorem vW{ln:Nat→Ln}{T:Nat}{a b:Int}:iM ln T a b=[]↔BG ln T a b:=by
 delta iM BG Lf
 rw[List.map_eq_nil_iff,dC]
 constructor
 ·intro h t h1 h2
  have:=h t (bc.mpr ⟨h1,Ef h2⟩)
  simpa using this
 ·intro h t ht
  have:=bc.mp ht
  have:=h t this.1 (FX this.2)
  simpa using this
theorem sX{ln:Nat→Ln}{T:Nat}{ord:List Int}{c:Nat}:n7 ln T ord c=[]↔n9 ln T ord c=true:=by
 delta n7 n9
 rw[decide_eq_true_eq,tP]
 refine forall_congr' λa=>forall_congr' λz=>?_
 rw[tP]
 exact forall_congr' λb=>forall_congr' λz=>vW
theorem pE{α β:Type}(f:α→List β)(k:Nat):∀xs:List α,(∀x∈xs,(f x).length≤k)→(xs.flatMap f).length≤k*xs.length:=by
 intro xs_
 induction xs_ with
 |nil=>
  intro _
  simp
 |cons x xs ih=>
  intro h
  rw[f9,aJ,aD,oB]
  rw[bu]
  exact bN (ih λy hy=>h y (by simp[hy])) (h x ((.head _)))
theorem vX(ln:Nat→Ln)(T:Nat)(a b:Int):(iM ln T a b).length≤T:=by
 unfold iM
 rw[aj]
 exact ac (bj _ _) (by simp)
theorem yw(T:Nat)(p q:Ln):zip2 (km T p) (km T q)=(bn 1 T).map λt=>.tup [.int (cv p t:Nat),.int (cv q t:Nat)]:=by
 delta zip2 km
 rw[List.zipWith_map,List.zipWith_self]
theorem Ad{K:List V→Hp→Prop}{acc:List V}{loc:bk}{hp:Hp}{ln:Nat→Ln}{n T:Nat}{a b:Int}(hn:n≤1000)(hT:T≤5)(ha:a∈rngI n)(hb:b∈rngI n)(hz:acc.length≤1000)(e51:loc 51=some (colsV ln n T))(e56:loc 56=some (.int a))(e57:loc 57=some (.int b))(q:K (acc++(iM ln T a b).map .int) hp):
 u4 (aT sP (av (aZ bw (ai 51) (ai 56)) (av (aZ bw (ai 51) (ai 57)) aF))) (lS ([58,59].map aG)) (cG (iZ λa b=>decide (b≤a)) (ai 58) (ai 59)) (dJ (aQ (.int 1))) K acc loc hp:=by
 have hlim:lim=1000000:=rfl
 obtain⟨i,hi,rfl⟩:=xl ha
 obtain⟨j,hj,rfl⟩:=xl hb
 show aT sP _ _ _ _ _
 refine rv e51 (rv e56 ?_)
 refine mf (λi=>.lst (km T (ln i))) hi hn ?_
 refine rv e51 (rv e57 ?_)
 refine mf (λi=>.lst (km T (ln i))) hj hn ?_
 refine⟨_,_,rfl,by simp[km],λz hp' Z=>⟨z,hp,_,rfl,Z,?_⟩⟩
 rw[yw]
 have e:(iM ln T (i:Nat) (j:Nat)).map V.int=((bn 1 T).filter λt=>decide (cv (ln j) t≤cv (ln i) t)).map λy=>V.int 1:=by simp[iM]
 rw[e]at q
 refine cLp_pure (λt=>V.tup [.int (cv (ln i) t:Nat),.int (cv (ln j) t:Nat)]) (λt=>decide (cv (ln j) t≤cv (ln i) t)) (λy=>.int 1) (bn 1 T) acc hp (by rw[nk];exact lim4 (ac (bN hz hT) (by decide))) trivial (λt y acc' ha' R hR=>?_) q
 have g58:upd (upd loc 58 (.int (cv (ln i) t:Nat))) 59 (.int (cv (ln j) t:Nat)) 58=some (.int (cv (ln i) t:Nat)):=(upd_ne (by decide)).trans us
 refine EN (rv g58 (rv us (xb ?_)))
 by_cases c:cv (ln j) t≤cv (ln i) t
 ·rw[if_pos (decide_eq_true c)]at hR
  exact iT (decide_eq_true (bC.mpr c)) ⟨ha',hR⟩
 ·rw[if_neg (by simpa using c)]at hR
  exact iF (by simpa using c) hR
theorem B9{Q:V→Hp→Prop}{X:XA}{loc:bk}{hp:Hp}{ln:Nat→Ln}{n T c:Nat}{ord:List Int}(hn:n≤6)(hT:T≤5)(ho:∀a∈ord,a∈rngI n)(hl:ord.length=n)(hc:c≤n)(e51:loc 51=some (colsV ln n T))(e53:loc 53=some (listV ord))(e55:loc 55=some (.int (c:Nat)))(q:Q (.lst ((n7 ln T ord c).map .int)) hp):
 cI [53,55,51] (kP (ai 53) (aQ .none) (ai 55) (aQ .none)) (aG 56) fNone (qe (kP (ai 53) (ai 55) (aQ .none) (aQ .none)) (aG 57) fNone (u4 (aT sP (av (aZ bw (ai 51) (ai 56)) (av (aZ bw (ai 51) (ai 57)) aF))) (lS ([58,59].map aG)) (cG (iZ λa b=>decide (b≤a)) (ai 58) (ai 59)) (dJ (aQ (.int 1))))) Q X loc hp:=by
 have hlim:lim=1000000:=rfl
 have hin:∀a,((ord.drop c).flatMap (iM ln T a)).length≤30:=λa=>by
  have h1:=pE (iM ln T a) 5 (ord.drop c) λb z=>ac (vX ln T a b) hT
  rw[iW]at h1;exact ac h1 (cr 5 (ac (ie _ _) (ac (ax hl) hn)))
 have hout:(n7 ln T ord c).length≤180:=by
  have h1:=pE (λa=>(ord.drop c).flatMap (iM ln T a)) 30 (ord.take c) λa z=>hin a
  rw[o5]at h1
  exact ac h1 (cr 30 (ac (kS _ _) (ac (ax hl) hn)))
 have hol:ord.length≤1000:=ac (ax hl) (ac hn (by decide))
 refine rv e53 (cn (rv e55 (cn ?_)))
 unfold listV
 rw[oS]
 refine⟨none,some (c:Int),none,by rw[aj];exact lim2 _ hol,rfl,rfl,rfl,by simp,?_⟩
 rw[pG,←m5]
 refine⟨_,rfl,?_⟩
 have e:(n7 ln T ord c).map V.int=(ord.take c).flatMap λa=>((ord.drop c).flatMap (iM ln T a)).map V.int:=by unfold n7;rw[kJ]
 have e2:((ord.take c).flatMap λa=>((ord.drop c).flatMap (iM ln T a)).map V.int).length≤180:=by rw[←e,aj];exact hout
 refine mY (B:=180) V.int (λa=>((ord.drop c).flatMap (iM ln T a)).map V.int) (ord.take c) [] hp (by simpa using e2) trivial (λa ha acc hacc R hR=>?_) (by rw[a8,←e];exact q)
 have k51:upd (keepL [53,55,51] loc) 56 (.int a) 51=some (colsV ln n T):=(upd_ne (by decide)).trans ((if_pos (by decide)).trans e51)
 have k53:upd (keepL [53,55,51] loc) 56 (.int a) 53=some (listV ord):=(upd_ne (by decide)).trans ((if_pos (by decide)).trans e53)
 have k55:upd (keepL [53,55,51] loc) 56 (.int a) 55=some (.int (c:Nat)):=(upd_ne (by decide)).trans ((if_pos (by decide)).trans e55)
 have k56:upd (keepL [53,55,51] loc) 56 (.int a) 56=some (.int a):=us
 refine gv (zM ?_)
 generalize upd (keepL [53,55,51] loc) 56 (.int a)=lo at*
 show kP (ai 53) (ai 55) (aQ .none) (aQ .none) _ _ _ _
 refine rv k53 (rv k55 (cn (cn ?_)))
 unfold listV
 rw[oS]
 refine⟨some (c:Int),none,none,by rw[aj];exact lim2 _ hol,rfl,rfl,rfl,by simp,?_⟩
 rw[mW,←i4]
 refine⟨_,rfl,?_⟩
 have e3:((ord.drop c).flatMap (iM ln T a)).map V.int=(ord.drop c).flatMap λb=>(iM ln T a b).map V.int:=by rw[kJ]
 rw[e3]at hacc hR
 refine mY (B:=180) V.int (λb=>(iM ln T a b).map V.int) (ord.drop c) acc hp hacc trivial (λb hb acc2 hacc2 R2 hR2=>?_) hR
 refine gv (zM ?_)
 exact Ad (ac hn (by decide)) hT (ho a (vC ha)) (ho b (mc hb)) (ac (aM _ _) (ac hacc2 (by decide))) ((upd_ne (by decide)).trans k51) ((upd_ne (by decide)).trans k56) us hR2
noncomputable def qC(cs:List Nat):O:=.lst (cs.map λ(c:Nat)=>.int (c:Nat))
theorem wE{Q:Fw→bk→Hp→Prop}{v:V}{hp0 hp:Hp}{ln:Nat→Ln}{n T:Nat}{ord:List Int}{l:Addr}(hv:∀h h',same v h h')(hn:n≤6)(hT:T≤5)(ho:∀a∈ord,a∈rngI n)(hl:ord.length=n):∀(js done:List Nat)(loc:bk),(∀j∈js,j≤n)→done.length+js.length≤1000→loc 51=some (colsV ln n T)→loc 53=some (listV ord)→loc 54=some (.ref l)→
 (∀loc',loc' 53=some (listV ord)→loc' 54=some (.ref l)→Q .next loc' (upd hp l (qC (done++js.filter (n9 ln T ord)))))→eK v hp0 (aG 55) im Q (js.map λ(j:Nat)=>.int (j:Nat)) loc (upd hp l (qC done)):=by
 intro xs_
 induction xs_ with
 |nil=>
  intro done loc _ _ e51 e53 e54 q
  have:=q loc e53 e54
  rw[p7,bD]at this
  exact this
 |cons j js ih=>
  intro done loc hj hz e51 e53 e54 q
  refine gv ?_
  have hlim:lim=1000000:=rfl
  simp only[aD]at hz
  unfold im
  refine sq ?_
  refine B9 hn hT ho hl (hj j ((.head _))) ((upd_ne (by decide)).trans e51) ((upd_ne (by decide)).trans e53) us ?_
  refine gv ?_
  refine nsq ?_
  generalize htv:V.lst ((n7 ln T ord j).map .int)=tv
  have f51:upd (upd loc 55 (.int (j:Nat))) 60 tv 51=some (colsV ln n T):=(upd_ne (by decide)).trans ((upd_ne (by decide)).trans e51)
  have f53:upd (upd loc 55 (.int (j:Nat))) 60 tv 53=some (listV ord):=(upd_ne (by decide)).trans ((upd_ne (by decide)).trans e53)
  have f54:upd (upd loc 55 (.int (j:Nat))) 60 tv 54=some (.ref l):=(upd_ne (by decide)).trans ((upd_ne (by decide)).trans e54)
  have f55:upd (upd loc 55 (.int (j:Nat))) 60 tv 55=some (.int (j:Nat)):=(upd_ne (by decide)).trans us
  have f60:upd (upd loc 55 (.int (j:Nat))) 60 tv 60=some tv:=us
  generalize upd (upd loc 55 (.int (j:Nat))) 60 tv=lo at*
  subst htv
  have next:∀done' lo',done'.length+js.length≤1000→done'++js.filter (n9 ln T ord)=done++(j::js).filter (n9 ln T ord)→lo'=lo→same v hp0 (upd hp l (qC done'))∧eK v hp0 (aG 55) im Q (js.map λ(j:Nat)=>.int (j:Nat)) lo' (upd hp l (qC done')):=λdone' lo' hz' e elo=>by
   subst elo
   exact⟨hv _ _,ih done' _ (λk hk=>hj k (by simp[hk])) hz' f51 f53 f54 λloc' h1 h2=>by rw[e];exact q loc' h1 h2⟩
  refine rv f60 ?_
  refine⟨bx _,?_⟩
  refine eq_ints (b:=[]) ?_
  refine xb ?_
  by_cases c:n7 ln T ord j=[]
  ·refine iT (by simpa using c) ?_
   refine sq ?_
   refine rv f54 ?_
   refine⟨isLst_ref us,?_⟩
   refine rv f55 (nl ?_)
   refine gM us (by rw[aj];exact lim2 _ (ac (aM _ _) hz)) (nx (nx ?_))
   rw[lF]
   have e:(done.map λ(c:Nat)=>V.int (c:Nat))++[V.int (j:Nat)]=(done++[j]).map λ(c:Nat)=>V.int (c:Nat):=by simp
   rw[e]
   exact next (done++[j]) lo (jI hz) (by rw[aU,sX.mp c];simp) rfl
  ·refine iF (by simpa using c) ?_
   have c2:¬n9 ln T ord j=true:=λz=>c (sX.mpr z)
   exact nx (next done lo (cw hz) (by rw[aU,if_neg c2]) rfl)
theorem pC(ln:Nat→Ln)(n:Nat):(gz ln n).Nodup:=by
 unfold gz
 refine qZ _ (λa b h=>?_) (iV (n:=n))
 intro e
 have:=(eX e).2
 exact h (gE this)
theorem wc(ln:Nat→Ln)(n:Nat):(gz ln n).map (·.2)=rngI n:=by simp[gz,rngI]
theorem qJ{ln:Nat→Ln}{n:Nat}{x:Int×Int}(h:x∈gz ln n):x.1=((cv (ln x.2.toNat) 1:Nat):Int):=by
 obtain⟨i,_,rfl⟩:=ay.mp h
 rfl
theorem rH{ln:Nat→Ln}{n:Nat}(hn:n=4∨n=5∨n=6):(gz ln n).length=4∨(gz ln n).length=5∨(gz ln n).length=6:=by simpa[gz]using hn
theorem yN{ln:Nat→Ln}{n:Nat}(hn:n=4∨n=5∨n=6):(ordL ln n).Perm (rngI n):=by
 have:=(sortP_spec (pC ln n) (rH hn)).2.2.1
 rw[←wc ln n]
 exact this.map _
theorem Cd{ln:Nat→Ln}{n:Nat}(hn:n=4∨n=5∨n=6):(ordL ln n).Pairwise λa b=>cv (ln a.toNat) 1≤cv (ln b.toNat) 1:=by
 have h:=sortP_spec (pC ln n) (rH hn)
 unfold ordL
 refine eZ.mpr (h.2.2.2.imp_of_mem λ{a b} ha hb hlt=>?_)
 have ea:=qJ (h.2.2.1.mem_iff.mp ha)
 have eb:=qJ (h.2.2.1.mem_iff.mp hb)
 unfold gX at hlt
 split at hlt
 ·rename_i c;exact ax (gE (ea.symm.trans (c.trans eb)))
 ·exact dD (dm.mp (by rw[←ea,←eb];exact of_decide_eq_true hlt))
theorem pO{ln:Nat→Ln}{n T:Nat}(hn:n=4∨n=5∨n=6)(hT:1≤T):Row n (BG ln T) (ordL ln n) (cutsL ln n T):=by
 have hp:=yN (ln:=ln) hn
 have hlen:(ordL ln n).length=n:=by rw[hp.length_eq,dj]
 refine⟨hp,λa ha b hb h=>?_,?_,λc=>?_⟩
 ·refine cS λhle=>?_
  have h1:=h 1 (b8 _) hT
  have la:=bh ha
  have lb:=bh hb
  rcases Nat.lt_or_eq_of_le hle with hlt|he
  ·have:=j2.mp (Cd (ln:=ln) hn) _ _ lb la hlt
   rw[cf,cf]at this
   exact cK this h1
  ·have:b=a:=by
    have e1:=cf lb
    have e2:=cf la
    have:(ordL ln n)[(ordL ln n).idxOf b]?=(ordL ln n)[(ordL ln n).idxOf a]?:=by rw[he]
    rw[au lb,au la,e1,e2]at this
    exact m9 this
   subst this;exact dh _ h1
 ·exact tR.filter _
 ·unfold cutsL
  rw[aO,aW]
  unfold n9
  rw[decide_eq_true_eq]
  exact and_congr_left' Nat.lt_succ_iff
theorem vw{cs:List Nat}{k:Nat}(h:k<cs.length):eN (cs.map λ(c:Nat)=>V.int (c:Nat)) ((k:Nat):Int)=some (.int (cs.getD k 0:Nat)):=by
 unfold eN
 rw[if_pos (aN k)]
 simp[h]
theorem uO{Q:V→Hp→Prop}{X:XA}{loc:bk}{hp hp2:Hp}{n:Nat}{L:Int→Int→Prop}{ord:List Int}{cs:List Nat}{l:Addr}(R:Row n L ord cs)(hord:ord.length=n)(hn6:n≤6)(gr:Grow hp hp2)(g53:loc 53=some (listV ord))(g54:loc 54=some (.ref l))(hh:hp2 l=some (qC cs))(q:∀hp',Grow hp hp'→Q (.lst ((blR ord cs).map listV)) hp'):
 cI [53,54] (aT cJ (av (aZ (mj (·- ·)) (aT d9 (av (ai 54) aF)) (aQ (.int 1))) aF)) (aG 61) fNone (dJ (aT lr (av (kP (ai 53) (aZ bw (ai 54) (ai 61)) (aZ bw (ai 54) (aZ ef (ai 61) (aQ (.int 1)))) (aQ .none)) aF))) Q X loc hp2:=by
 have hlim:lim=1000000:=rfl
 have hcl:cs.length≤n+1:=by
  have h1:=R.inc.imp (S:=(·≠·)) (λh=>cR h)
  have:=gK cs (az (n+1)) h1 λc hc=>aW.mpr (c0 ((R.mem c).mp hc).1)
  rwa[aK]at this
 have hcs:cs.length≤1000:=ac hcl (ac (aI hn6) (by decide))
 have hc1:1≤cs.length:=mI.mpr λe=>by have:=R.zero;rw[e]at this;cases this
 have hz2:(cs.map λ(c:Nat)=>V.int (c:Nat)).length≤lim:=by rw[aj];exact lim2 _ hcs
 have em:((cs.map λ(c:Nat)=>V.int (c:Nat)).length:Int) - 1=((cs.length - 1:Nat):Int):=by rw[aj];exact BN hc1
 refine u3 (n:=cs.length - 1) (λk=>listV (sortZ ((ord.take (cs.getD (k+1) 0)).drop (cs.getD k 0)))) (ac (ie _ _) hcs) (λR2 hR=>rv g54 (nl (EL hh hz2 (cn ?_)))) (λk hk R2 hR=>?_) ?_
 ·show R2 (.int (((cs.map λ(c:Nat)=>V.int (c:Nat)).length:Int) - 1)) hp2
  rw[em];exact hR
 ·have k53:upd (keepL [53,54] loc) 61 (.int (k:Nat)) 53=some (listV ord):=kp (by decide) g53
  have k54:upd (keepL [53,54] loc) 61 (.int (k:Nat)) 54=some (.ref l):=kp (by decide) g54
  have k61:upd (keepL [53,54] loc) 61 (.int (k:Nat)) 61=some (.int (k:Nat)):=us
  generalize upd (keepL [53,54] loc) 61 (.int (k:Nat))=l3 at*
  have b0:k<cs.length:=aE hk (ie _ _)
  have b1:k+1<cs.length:=mC hk
  have g0:cs.getD k 0=cs[k]:=by rw[aX,au b0];rfl
  have g1:cs.getD (k+1) 0=cs[k+1]:=by rw[aX,au b1];rfl
  have hmm:cs.getD k 0≤cs.getD (k+1) 0:=by
   rw[g0,g1]
   exact dD (j2.mp R.inc k (k+1) b0 b1 (ct _))
  have hmx:cs.getD (k+1) 0≤n:=by
   rw[g1]
   exact((R.mem _).mp (iX b1)).1
  refine rv k53 (rv k54 (rv k61 (FZ hh hz2 (vw b0) (rv k54 (rv k61 (cn (ES (FZ hh hz2 (vw b1) (cn (EP ⟨some (cs.getD k 0:Nat),some (cs.getD (k+1) 0:Nat),none,by rw[aj];exact lim2 _ (ac (ax hord) (ac hn6 (by decide))),rfl,rfl,rfl,nofun,?_⟩))))))))))
  rw[zj _ hmm (by rw[aj,hord];exact hmx),←m5,←i4]
  refine nl (Gr ⟨?_,hR⟩)
  rw[iW,o5];exact bM (ac (ie _ _) (ac (kS _ _) (ac (ax hord) hn6))) (by decide)
 ·have:=q _ gr
  unfold blR at this
  rw[bF]at this
  exact this
theorem sg{Q:V→Hp→Prop}{X:XA}{hp:Hp}{ln:Nat→Ln}{n T:Nat}(hn:n=4∨n=5∨n=6)(hT:1≤T)(hT5:T≤5)(q:∀hp',Grow hp hp'→Q (.lst ((blR (ordL ln n) (cutsL ln n T)).map listV)) hp'):ik [colsV ln n T] Q X hp:=by
 refine⟨[(51,colsV ln n T)],rfl,?_⟩
 have hlim:lim=1000000:=rfl
 have hn6:n≤6:=BL hn
 have hn4:2≤n:=n2 hn
 have hn1:n≤1000:=ac hn6 (by decide)
 have R:=pO (ln:=ln) (T:=T) hn hT
 have sp:=sortP_spec (pC ln n) (rH hn)
 have o51:locOf [(51,colsV ln n T)] 51=some (colsV ln n T):=rfl
 generalize locOf [(51,colsV ln n T)]=lo at*
 have hpl:(gz ln n).length=n:=by simp[gz]
 have hord:(ordL ln n).length=n:=R.len
 unfold m7
 refine sq ?_
 rw[eY,oQ,dS,cD]
 refine u3 (n:=n) (λi=>jp (((cv (ln i) 1:Nat):Int),((i:Nat):Int))) hn1 (λR hR=>rv o51 (nl (A5 ?_))) (λi hi R hR=>?_) ?_
 ·rw[aj,aK]
  exact⟨lim2 _ hn1,hR⟩
 ·have k51:upd (keepL [51] lo) 52 (.int (i:Nat)) 51=some (colsV ln n T):=kp (by decide) o51
  refine rv k51 (rv us (mf (λi=>.lst (km T (ln i))) hi hn1 (cn (F0 ⟨by simp[km];exact lim2 _ (ac hT5 (by decide)),.int (cv (ln i) 1:Nat),?_,rv us ⟨aV rfl,hR⟩⟩))))
  obtain⟨m,rfl⟩:∃m,T=m+1:=⟨T - 1,(nZ hT).symm⟩
  unfold km
  rw[kH];rfl
 refine⟨_,gz ln n,rfl,by unfold gz;rw[bF];rfl,ac hn4 (ax hpl.symm),bM (ac (ax hpl) hn6) (by decide),sp.1,sp.2.1,?_⟩
 refine⟨_,rfl,cLp_pure jp (λz=>true) (λp=>.int p.2) (sortP (gz ln n)) [] hp (by rw[dY,sp.2.2.1.length_eq,hpl,bH];exact lim2 _ hn1) trivial (λp z acc ha R2 hR=>EN (zM ⟨ha,rv us hR⟩)) ?_⟩
 have e: []++((sortP (gz ln n)).filter λz=>true).map (λp=>V.int p.2)=(ordL ln n).map .int:=by rw[a8,cm.mpr (λz z=>rfl)];simp[ordL]
 rw[e]
 refine gv (nsq ⟨bx _,λl hl=>gv (nsq ?_)⟩)
 have f51:upd (upd lo 53 (.lst ((ordL ln n).map .int))) 54 (.ref l) 51=some (colsV ln n T):=(upd_ne (by decide)).trans ((upd_ne (by decide)).trans o51)
 have f53:upd (upd lo 53 (.lst ((ordL ln n).map .int))) 54 (.ref l) 53=some (listV (ordL ln n)):=(upd_ne (by decide)).trans us
 have f54:upd (upd lo 53 (.lst ((ordL ln n).map .int))) 54 (.ref l) 54=some (.ref l):=us
 generalize upd (upd lo 53 (.lst ((ordL ln n).map .int))) 54 (.ref l)=l1 at*
 refine rv f53 (nl (A5 ⟨by rw[aj,hord];exact lim2 _ hn1,cn (ES (nl (A3 ⟨_,fK (by decide) (by rw[aj,hord];exact sG (aI hn6) (by decide)),?_⟩)))⟩))
 have en:(((ordL ln n).map V.int).length:Int)+1=((n+1:Nat):Int):=by rw[aj,hord];rfl
 rw[en,i9]
 refine wE (ln:=ln) (n:=n) (T:=T) (ord:=ordL ln n) (l:=l) (hp:=hp) (by simp) hn6 hT5 (λa ha=>R.pm.mem_iff.mp ha) hord (az (n+1)) [] l1 (λj hj=>cM (aW.mp hj)) (ac (ax (bH _)) (by rw[aK];exact ac (aI hn6) (by decide))) f51 f53 f54 λl2 g53 g54=>nsq ?_
 rw[a8]
 show(gH _) _ _ l2 (upd hp l (qC (cutsL ln n T)))
 exact uO R hord hn6 (Grow.new hl) g53 g54 us λhp' g=>xg (q hp' g)
theorem lJ{α:Type}(f:α→V)(d:α→PyData)(h:∀x,vK (f x)=some (d x)):∀xs:List α,jo (xs.map f)=some (xs.map d):=by
 intro xs_
 induction xs_ with
 |nil=>
  exact rfl
 |cons x xs ih=>
  show(vK (f x)).bind (λe=>(jo (xs.map f)).map (e::·))=_
  rw[h x,ih];rfl
theorem Ay{α:Type}(d:α→PyData)(k:Nat)(h:∀x,(d x).canLay0=true∧(d x).depth≤k):∀xs:List α,fS (xs.map d)=true∧gU (xs.map d)≤k:=by
 intro xs_
 induction xs_ with
 |nil=>
  exact⟨rfl,bx _⟩
 |cons x xs ih=>
  have h1:=ih
  have h2:=h x
  simp only[ar,fS,gU,h1.1,h2.1,Bool.and_self,true_and]
  exact ig.mpr ⟨h2.2,h1.2⟩
theorem mu{α:Type}(d:α→PyData)(h:∀x,(d x).canLay0=true∧(d x).depth≤60)(xs:List α):bO (.list (xs.map d))=true:=by
 obtain⟨h1,h2⟩:=Ay d 60 h xs
 unfold bO
 rw[bv]
 refine⟨by rw[fp];exact h1,decide_eq_true ?_⟩
 rw[gu];exact ac (aI h2) (by decide)
theorem rI{Q:V→Hp→Prop}{hp:Hp}{x y:V}{d:PyData}(h:toD hp x=some d)(h':toD hp y=some d)(s:bO d=true)(q:Q (.bool false) hp):q9 x y Q hp:=
 ⟨d,d,h,h',s,s,by rw[SeqAt.eqv_refl d (d4 s)];exact q⟩
noncomputable def dI(xs:List Int):PyData:=.list (xs.map .int)
theorem nM(xs:List Int):vK (listV xs)=some (dI xs):=fW (hp:=λz=>ae) xs
theorem DO(xs:List Int):(dI xs).canLay0=true∧(dI xs).depth≤60:=by
 have h:=qL xs
 unfold dI
 refine⟨by rw[fp];exact h.1,by rw[gu,h.2];decide⟩
noncomputable def dW(p q:Ln)(t:Nat):PyData:=.tuple [.int (t:Nat),.int (cv p t:Nat),.int (cv q t:Nat)]
theorem z9{Q:V→Hp→Prop}{hp:Hp}{p q:Ln}{ws:List Nat}(k:Q (.bool false) hp):q9 (.lst (ws.map (j3 p q))) (.lst (ws.map (j3 p q))) Q hp:=by
 have e:toD hp (.lst (ws.map (j3 p q)))=some (.list (ws.map (dW p q))):=by
  show(jo _).map _=_
  rw[lJ (j3 p q) (dW p q) λz=>rfl];rfl
 exact rI e e (mu (dW p q) (λt=>⟨rfl,by simp[dW,gU,gu]⟩) ws) k
noncomputable def textsV(ln:Nat→Ln)(n:Nat):V:=.lst ((az n).map λi=>.str (tx (ln i)))
noncomputable def leadsV(ln:Nat→Ln)(n:Nat):V:=.lst ((az n).map λi=>wOf (ln i))
structure mM(ln:Nat→Ln)(n T:Nat)(l:Addr)(loc:bk):Prop where
 e51:loc 51=some (colsV ln n 5)
 e64:loc 64=some (textsV ln n)
 e87:loc 87=some (.int (T:Nat))
 e88:loc 88=some (leadsV ln n)
 e89:loc 89=some (listV (rngI n))
 e90:loc 90=some (.ref l)
theorem mM.keep{ln:Nat→Ln}{n T:Nat}{l:Addr}{loc:bk}(E:mM ln n T l loc){i:Nat}{v:V}(h:i∉[51,64,87,88,89,90]):mM ln n T l (upd loc i v):=by
 simp only[am,zH,or_false,not_or]at h
 exact⟨(upd_ne (aS h.1)).trans E.e51,(upd_ne (aS h.2.1)).trans E.e64,(upd_ne (aS h.2.2.1)).trans E.e87,(upd_ne (aS h.2.2.2.1)).trans E.e88,(upd_ne (aS h.2.2.2.2.1)).trans E.e89,(upd_ne (aS h.2.2.2.2.2)).trans E.e90⟩
noncomputable def i6(ln:Nat→Ln)(T a b:Nat):Bool:=decide (a≠b∧¬Lf T (ln b) (ln a))
noncomputable def stepsO(es:List (Int×Int)):O:=.lst (es.map jp)
section
variable{ln:Nat→Ln}{n T:Nat}{l:Addr}{a b:Nat}{Q:Fw→bk→Hp→Prop}{X:XS}{loc:bk}{hp:Hp}
theorem tE{es:List (Int×Int)}(hl:es.length≤1000)(e90:loc 90=some (.ref l))(e56:loc 56=some (.int (a:Nat)))(e57:loc 57=some (.int (b:Nat)))(q:Q .next loc (upd hp l (stepsO (es++[((a:Int),(b:Int))])))):
 jk (bX gJ ff (ai 90) (av (mh (av (ai 56) (av (ai 57) aF))) aF)) Q X loc (upd hp l (stepsO es)):=by
 have hlim:lim=1000000:=rfl
 refine rv e90 ?_
 refine⟨isLst_ref us,?_⟩
 refine rv e56 (rv e57 (nl ?_))
 refine⟨aV rfl,?_⟩
 refine nl ?_
 refine gM us (by rw[aj];exact lim2 _ hl) ?_
 rw[lF]
 have e:es.map jp++[V.tup [.int (a:Nat),.int (b:Nat)]]=(es++[((a:Int),(b:Int))]).map jp:=by rw[dG];rfl
 rw[e];exact q
theorem step_body(ok:∀i<n,jl (ln i))(hn:n≤6)(hT:T≤5)(ha:a<n)(hb:b<n){es:List (Int×Int)}(hl:es.length≤1000)(E:mM ln n T l loc)(e56:loc 56=some (.int (a:Nat)))(e57:loc 57=some (.int (b:Nat)))
 (q:∀loc',mM ln n T l loc'→loc' 56=some (.int (a:Nat))→Q .next loc' (upd hp l (stepsO (es++if i6 ln T a b then [((a:Int),(b:Int))]else [])))):oY Q X loc (upd hp l (stepsO es)):=by
 have hn1:n≤1000:=ac hn (by decide)
 unfold oY
 refine sq ?_
 have cond:∀{K:Bool→Hp→Prop}{X:XA}{hp:Hp},K (decide (a<b)&&decide (T=5)) hp→i7 (cG (iZ λa b=>decide (a<b)) (ai 56) (ai 57)) (i7 (cG pX (ai 87) (aQ (.int 5))) (λQ y y hp=>Q true hp)) K X loc hp:=λ{K X hp} h=>by
  refine rv e56 (rv e57 (xb ?_))
  by_cases c:a<b
  ·refine iT (by simpa using c) (rv E.e87 (cn (eq_int (xb ?_))))
   by_cases d:T=5
   ·refine iT (by simp[d]) ?_
    simpa[c,d]using h
   ·refine iF (by simp;exact λz=>d (gE z)) ?_
    simpa[c,d]using h
  ·refine iF (by simpa using c) ?_
   simpa[c]using h
 refine cond ?_
 by_cases c:a<b∧T=5
 ·obtain⟨c1,c2⟩:=c
  refine iT (by simp[c1,c2]) ?_
  refine sq ?_
  refine rv E.e88 (rv e57 ?_)
  refine mf (λi=>wOf (ln i)) hb hn1 ⟨vO (.inr (.inr (.inl rfl))),?_⟩
  refine rv E.e88 (rv e56 ?_)
  refine mf (λi=>wOf (ln i)) ha hn1 ?_
  refine Cz (vM (ok b hb)) (vM (ok a ha)) ?_
  refine gv ?_
  refine nsq ?_
  have hr:=y0 (ok b hb) (ok a ha)
  generalize lessP (ln b).1 (ln b).2 (ln a).1 (ln a).2=r at hr
  have told:i6 ln T a b= !r:=by
   unfold i6
   rw[c2]
   cases r with
   |true=>simpa using λy=>hr.mp rfl
   |false=>simp only[BD,decide_eq_true_eq];exact⟨cR c1,λz=>by simpa using hr.mpr z⟩
  have E':mM ln n T l (upd loc 92 (.bool r)):=E.keep (by decide)
  have f56:upd loc 92 (.bool r) 56=some (.int (a:Nat)):=(upd_ne (by decide)).trans e56
  have f57:upd loc 92 (.bool r) 57=some (.int (b:Nat)):=(upd_ne (by decide)).trans e57
  have f92:upd loc 92 (.bool r) 92=some (.bool r):=us
  generalize upd loc 92 (.bool r)=lo at*
  rw[told]at q
  refine rv f92 ?_
  cases r with
  |true=>
   refine⟨_,rfl,?_⟩
   refine xb (iF (by decide) (iF (by decide) ?_))
   refine nsq ?_
   refine rv f92 ?_
   refine⟨_,rfl,?_⟩
   refine xb (iF (by decide) ?_)
   refine nx (nx ?_)
   have:=q lo E' f56
   rw[if_neg (by decide),bD]at this
   exact this
  |false=>
   refine⟨_,rfl,?_⟩
   refine xb (iT (by decide) (rv f92 ?_))
   refine⟨_,rfl,?_⟩
   refine xb (iF (by decide) (iF (by decide) ?_))
   refine nsq ?_
   refine rv f92 ?_
   refine⟨_,rfl,?_⟩
   refine xb (iT (by decide) ?_)
   refine sq ?_
   have:=q lo E' f56
   rw[if_pos (by decide)]at this
   exact tE hl E'.e90 f56 f57 (nx (nx (nx this)))
 ·refine iF (by simpa using c) ?_
  refine sq ?_
  refine rv e56 (rv e57 (ne_int (xb ?_)))
  by_cases d:a=b
  ·refine iF (by simp[d]) ?_
   have told:i6 ln T a b=false:=by unfold i6;simp[d]
   have:=q loc E e56
   rw[told,if_neg (by decide),bD]at this
   exact nx (nx this)
  ·refine iT (by simp;first|exact d|exact λz=>d (gE z)) ?_
   refine sq ?_
   refine rv E.e88 (rv e57 ?_)
   refine mf (λi=>wOf (ln i)) hb hn1 ⟨vO (.inr (.inr (.inr rfl))),?_⟩
   refine rv E.e88 (rv e56 ?_)
   refine mf (λi=>wOf (ln i)) ha hn1 ?_
   refine DP (ok b hb) (ok a ha) ?_
   refine gv ?_
   refine nsq ?_
   have hw:=yx (p:=ln b) (q:=ln a) (top:=T)
   have hwl:(pd (ln b) (ln a) (bn 1 (topP (ln b) (ln a)))).length≤5:=by
    have h1:=oN (ok b hb) (ok a ha)
    have h2:=bj (λt=>decide (cv (ln a) t≤cv (ln b) t)) (bn 1 (topP (ln b) (ln a)))
    rw[nk]at h2
    exact ac h2 h1
   generalize hws:pd (ln b) (ln a) (bn 1 (topP (ln b) (ln a)))=ws at*
   generalize hwv:V.lst (ws.map (j3 (ln b) (ln a)))=wv
   have E':mM ln n T l (upd loc 94 wv):=E.keep (by decide)
   have f56:upd loc 94 wv 56=some (.int (a:Nat)):=(upd_ne (by decide)).trans e56
   have f57:upd loc 94 wv 57=some (.int (b:Nat)):=(upd_ne (by decide)).trans e57
   have f94:upd loc 94 wv 94=some wv:=us
   generalize upd loc 94 wv=lo at*
   subst hwv
   refine rv f94 (rv E'.e51 (rv f57 ?_))
   refine mf (λi=>.lst (km 5 (ln i))) hb hn1 ?_
   refine rv E'.e51 (rv f56 ?_)
   refine mf (λi=>.lst (km 5 (ln i))) ha hn1 ?_
   refine rv E'.e64 (rv f57 ?_)
   refine mf (λi=>.str (tx (ln i))) hb hn1 ?_
   refine rv E'.e64 (rv f56 ?_)
   refine mf (λi=>.str (tx (ln i))) ha hn1 ?_
   refine⟨aV rfl,?_⟩
   refine qs (p:=ln b) (q:=ln a) (ok b hb) (ok a ha) ?_
   rw[hws]
   refine z9 ?_
   refine xb (iF (by decide) ?_)
   refine nsq ?_
   refine rv f94 ?_
   refine⟨_,rfl,?_⟩
   refine cLp_pure (j3 (ln b) (ln a)) (λt=>decide (t≤T)) (λt=>.int (t:Nat)) ws [] _ (xi (lim2 _ (ac hwl (by decide)))) trivial (λt ht acc hacc R hR=>?_) ?_
   ·have k87:keepL [87] lo 87=some (.int (T:Nat)):=(if_pos (by decide)).trans E'.e87
    generalize keepL [87] lo=l1 at*
    unfold j3
    refine xt ?_
    simp only[rN,rO]
    have k48:upd (upd (upd l1 48 (.int (t:Nat))) 58 (.int (cv (ln b) t:Nat))) 59 (.int (cv (ln a) t:Nat)) 48=some (.int (t:Nat)):=(upd_ne (by decide)).trans ((upd_ne (by decide)).trans us)
    have j87:upd (upd (upd l1 48 (.int (t:Nat))) 58 (.int (cv (ln b) t:Nat))) 59 (.int (cv (ln a) t:Nat)) 87=some (.int (T:Nat)):=(upd_ne (by decide)).trans ((upd_ne (by decide)).trans ((upd_ne (by decide)).trans k87))
    rw[jU,be,rd k48,be,rd j87,pw,jb]
    by_cases e:t≤T
    ·rw[if_pos (by simpa using e),rC,be,rd k48]
     simp only[e,decide_true,if_true]at hR
     exact⟨hacc,hR⟩
    ·refine iF (by simpa using e) ?_
     simp only[e,decide_false,cC,if_false]at hR
     exact hR
   ·rw[a8]
    refine⟨bx _,?_⟩
    have e:(ws.filter λt=>decide (t≤T)).map (λt=>V.int (t:Nat))=((ws.filter λt=>decide (t≤T)).map λ(t:Nat)=>(t:Int)).map V.int:=by rw[bF];rfl
    rw[e]
    refine ne_ints (b:=[]) (xb ?_)
    by_cases f:Lf T (ln b) (ln a)
    ·rw[hw.mpr f]
     refine iF (by decide) ?_
     have told:i6 ln T a b=false:=by unfold i6;simp[f]
     have:=q lo E' f56
     rw[told,if_neg (by decide),bD]at this
     exact nx (nx (nx this))
    ·have f2:¬(ws.filter λt=>decide (t≤T))=[]:=λz=>f (hw.mp z)
     refine iT (by simpa using f2) ?_
     have told:i6 ln T a b=true:=by unfold i6;simp[f,d]
     have:=q lo E' f56
     rw[told,if_pos rfl]at this
     refine sq ?_
     exact tE hl E'.e90 f56 f57 (nx (nx (nx (nx this))))
end
theorem mV(n:Nat):(rngI n).map V.int=(az n).map λ(j:Nat)=>V.int (j:Nat):=by simp[rngI]
noncomputable def rowE(ln:Nat→Ln)(n T a:Nat):List (Int×Int):=((az n).filter (i6 ln T a)).map λ(b:Nat)=>((a:Int),(b:Int))
noncomputable def pq(ln:Nat→Ln)(n T:Nat):List (Int×Int):=(az n).flatMap (rowE ln n T)
section
variable{ln:Nat→Ln}{n T:Nat}{l:Addr}{Q:Fw→bk→Hp→Prop}{hp:Hp}
theorem uI{v:V}{hp0:Hp}(hv:∀h h',same v h h')(ok:∀i<n,jl (ln i))(hn:n≤6)(hT:T≤5){a:Nat}(ha:a<n):∀(js:List Nat)(es:List (Int×Int))(loc:bk),(∀j∈js,j<n)→es.length+js.length≤1000→mM ln n T l loc→loc 56=some (.int (a:Nat))→
 (∀loc',mM ln n T l loc'→Q .next loc' (upd hp l (stepsO (es++(js.filter (i6 ln T a)).map λ(b:Nat)=>((a:Int),(b:Int))))))→eK v hp0 (aG 57) oY Q (js.map λ(j:Nat)=>.int (j:Nat)) loc (upd hp l (stepsO es)):=by
 intro xs_
 induction xs_ with
 |nil=>
  intro es loc _ _ E _ q
  have:=q loc E
  rw[p7,dR,bD]at this
  exact this
 |cons j js ih=>
  intro es loc hj hz E e56 q
  refine gv ?_
  simp only[aD]at hz
  refine step_body ok hn hT ha (hj j (by simp)) (ac (aM _ _) hz) (E.keep (by decide)) ((upd_ne (by decide)).trans e56) us λloc' E' f56=>⟨hv _ _,?_⟩
  refine ih _ loc' (λk hk=>hj k (by simp[hk])) (by split;exact jI hz;rw[bD];exact cw hz) E' f56 λloc2 E2=>?_
  have:=q loc2 E2
  rw[aU]at this
  cases c:i6 ln T a j with
  |true=>rw[if_pos rfl];rw[c,if_pos rfl,ar]at this;rw[b7];exact this
  |false=>rw[if_neg (by decide),bD];rw[c,if_neg (by decide)]at this;exact this
theorem s7{a:Nat}(hn:n≤6)(ha:a<n):(rowE ln n T a).length≤5:=by
 unfold rowE
 rw[aj]
 have:=j8 (p:=i6 ln T a) (q:=λz=>true) (λz z=>rfl) (aW.mpr ha) rfl (by simp[i6])
 rw[cm.mpr (λz z=>rfl),aK]at this
 exact cM (aE this hn)
theorem uC{v:V}{hp0:Hp}(hv:∀h h',same v h h')(ok:∀i<n,jl (ln i))(hn:n≤6)(hT:T≤5):∀(js:List Nat)(es:List (Int×Int))(loc:bk),(∀j∈js,j<n)→es.length+6*js.length≤900→mM ln n T l loc→
 (∀loc',mM ln n T l loc'→Q .next loc' (upd hp l (stepsO (es++js.flatMap (rowE ln n T)))))→eK v hp0 (aG 56) oX Q (js.map λ(j:Nat)=>.int (j:Nat)) loc (upd hp l (stepsO es)):=by
 intro xs_
 induction xs_ with
 |nil=>
  intro es loc _ _ E q
  have:=q loc E
  rw[List.flatMap_nil,bD]at this
  exact this
 |cons j js ih=>
  intro es loc hj hz E q
  refine gv ?_
  simp only[aD]at hz
  unfold oX
  refine sq ?_
  have E1:mM ln n T l (upd loc 56 (.int (j:Nat))):=E.keep (by decide)
  refine rv E1.e89 ?_
  refine⟨_,rfl,?_⟩
  rw[mV]
  refine uI (v:=listV (rngI n)) (λz z=>trivial) ok hn hT (hj j (by simp)) (az n) es _ (λk hk=>aW.mp hk) (by rw[aK];exact ac (bN (ac (aM _ _) hz) hn) (by decide)) E1 us λloc' E'=>nx ⟨hv _ _,?_⟩
  have hr:=s7 (ln:=ln) (T:=T) hn (hj j (ak))
  refine ih _ loc' (λk hk=>hj k (by simp[hk])) (by show(es++rowE ln n T j).length+_≤_;rw[aJ,bK];exact ac (dF (ac (bI (ac hr (by decide:5≤6)) _) (ax (bu 6 _))) _) hz) E' λloc2 E2=>?_
  have:=q loc2 E2
  rw[f9,←b7]at this
  exact this
theorem wB(hn:n≤6):(pq ln n T).length≤30:=by
 have:=pE (rowE ln n T) 5 (az n) λa ha=>s7 hn (aW.mp ha)
 rw[aK]at this
 exact ac this (cr 5 hn)
theorem wA{a b:Int}:(a,b)∈pq ln n T↔a∈rngI n∧b∈rngI n∧a≠b∧¬BG ln T b a:=by
 delta pq rowE
 constructor
 ·intro h
  obtain⟨i,hi,h⟩:=dM.mp h
  obtain⟨j,hj,e⟩:=ay.mp h
  obtain⟨h1,h2⟩:=aO.mp hj
  have hi:=aW.mp hi
  have hj:=aW.mp h1
  obtain⟨e1,e2⟩:=eX e
  subst e1;subst e2
  unfold i6 at h2
  rw[decide_eq_true_eq]at h2
  exact⟨dP.mpr ⟨aN i,dm.mpr hi⟩,dP.mpr ⟨aN j,dm.mpr hj⟩,λz=>h2.1 (gE z),h2.2⟩
 ·rintro⟨h1,h2,h3,h4⟩
  have h1:=dP.mp h1
  have h2:=dP.mp h2
  refine dM.mpr ⟨a.toNat,aW.mpr (vP h1),ay.mpr ⟨b.toNat,aO.mpr ⟨aW.mpr (vP h2),?_⟩,?_⟩⟩
  ·unfold i6
   rw[decide_eq_true_eq]
   exact⟨λz=>h3 ((A6 h1.1).trans ((congrArg (λk:Nat=>(k:Int)) z).trans (A6 h2.1).symm)),h4⟩
  ·rw[jD h1.1,jD h2.1]
theorem B4(hn:n=4∨n=5∨n=6)(hT:1≤T):Wd n (BG ln T) (pq ln n T) (blR (ordL ln n) (cutsL ln n T)) (bpR (ordL ln n) (cutsL ln n T)):=
 (pO hn hT).wd (λa b c h1 h2=>Lf.trans h1 h2) (λa h=>Lf.irr hT h) (λa b=>wA) (wB (BL hn))
end
noncomputable def grV(G:List (List Int)):V:=.lst ((az G.length).map λ(k:Nat)=>listV (gR G k))
theorem rn(G:List (List Int)):grV G= .lst (G.map listV):=by
 unfold grV
 conv=>rhs;rw[←vd G]
 rw[bF,rngI,bF];rfl
theorem BQ{Q:V→Hp→Prop}{hp:Hp}{G:List (List Int)}{k:Int}(hz:G.length≤1000)(hk:k∈rngI G.length)(q:Q (listV (gR G k)) hp):bw (grV G) (.int k) Q hp:=by
 obtain⟨i,hi,rfl⟩:=xl hk
 exact mf (λk:Nat=>listV (gR G k)) hi hz q
theorem t8{Q:V→Hp→Prop}{XE:XA}{hp:Hp}{G:List (List Int)}(hz:G.length≤1000)(q:Q (.int (G.length:Nat)) hp):d9 [grV G] Q XE hp:=by
 unfold grV
 refine A5 ?_
 rw[aj,aK]
 exact⟨lim2 _ hz,q⟩
section
variable{n:Nat}{L:Int→Int→Prop}{E:List (Int×Int)}{Bs:List (List Int)}{bp:Int→Nat}{G:List (List Int)}{l:Addr}{Q:V→Hp→Prop}{X:XA}{loc:bk}{hp:Hp}
theorem Co(P:PG n bp G)(hz:G.length≤1000)(hn:n≤1000)(e89:loc 89=some (listV (rngI n)))(e96:loc 96=some (grV G))(q:Q (.lst ((az n).map λ(p:Nat)=>.int (ft G p))) hp):
 cI [96] (ai 89) (aG 52) fNone (dJ (aZ bw (cI [52,96] (aT cJ (av (aT d9 (av (ai 96) aF)) aF)) (aG 61) (cG p9 (ai 52) (aZ bw (ai 96) (ai 61))) (dJ (ai 61))) (aQ (.int 0)))) Q X loc hp:=by
 refine rv e89 ⟨_,rfl,?_⟩
 rw[mV]
 refine vN (λp:Nat=>V.int (p:Nat)) (λp=>.int (ft G (p:Nat))) (by rw[aK];exact hn) trivial (λp hp' R hR=>?_) q
 have k96:upd (keepL [96] loc) 52 (.int (p:Nat)) 96=some (grV G):=kp (by decide) e96
 have k52:upd (keepL [96] loc) 52 (.int (p:Nat)) 52=some (.int (p:Nat)):=us
 generalize upd (keepL [96] loc) 52 (.int (p:Nat))=lo at*
 have hpn:(p:Int)∈rngI n:=dP.mpr ⟨aN _,dm.mpr (aW.mp hp')⟩
 obtain⟨h1,h2⟩:=P.home hpn
 rw[d1]
 refine Bj (n:=G.length) (λk=>decide ((p:Int)∈gR G (k:Nat))) (λk=>.int (k:Nat)) hz (λR hR=>rv k96 (nl (t8 hz hR))) (λk hk R hR=>?_) (λk hk z R hR=>rv us hR) ?_
 ·exact rv (kp (by decide) k52) (rv (kp (by decide) k96) (rv us (BQ hz (dP.mpr ⟨aN _,dm.mpr hk⟩) (xD (xb hR)))))
 ·have e:((az G.length).filter λ(k:Nat)=>decide ((p:Int)∈gR G (k:Nat))).map (λ(k:Nat)=>V.int (k:Nat))=((rngI G.length).filter λk=>decide ((p:Int)∈gR G k)).map .int:=by
   unfold rngI
   rw[p8,bF];rfl
  rw[e]
  have hl:=bj (λk=>decide ((p:Int)∈gR G k)) (rngI G.length)
  rw[dj]at hl
  refine cn (F0 ⟨by rw[aj];exact lim2 _ (ac hl hz),.int (ft G p),?_,hR⟩)
  unfold ft
  cases hf:(rngI G.length).filter λk=>decide ((p:Int)∈gR G k)with
  |nil=>exact absurd h2 (by simpa using dC.mp hf _ h1)
  |cons y t=>rfl
theorem AF(W:Wd n L E Bs bp)(P:PG n bp G)(hz:G.length≤1000)(hn:n≤1000)(e90:loc 90=some (.ref l))(hl:hp l=some (stepsO E))(e96:loc 96=some (grV G))(e98:loc 98=some (.lst ((az n).map λ(p:Nat)=>.int (ft G p))))(q:Q (headsV (hG G E) G.length) hp):
 cI [90,98] (aT cJ (av (aT d9 (av (ai 96) aF)) aF)) (aG 61) fNone (dJ (cI [98,61] (ai 90) (lS ([56,57].map aG)) (i7 (cG pX (aZ bw (ai 98) (ai 57)) (ai 61)) (i7 (cG q9 (aZ bw (ai 98) (ai 56)) (ai 61)) (λQ z z hp=>Q true hp))) (dJ (aZ bw (ai 98) (ai 56))))) Q X loc hp:=by
 refine u3 (n:=G.length) (λk=>listV (hG G E (k:Nat))) hz (λR hR=>rv e96 (nl (t8 hz hR))) (λk hk R hR=>?_) q
 have k90:upd (keepL [90,98] loc) 61 (.int (k:Nat)) 90=some (.ref l):=kp (by decide) e90
 have k98:upd (keepL [90,98] loc) 61 (.int (k:Nat)) 98=_:=kp (by decide) e98
 have k61:upd (keepL [90,98] loc) 61 (.int (k:Nat)) 61=some (.int (k:Nat)):=us
 generalize upd (keepL [90,98] loc) 61 (.int (k:Nat))=lo at*
 refine rv k90 ⟨_,om hl,?_⟩
 have item:∀{i:Nat}{a:Int}{Q:V→Hp→Prop}{X:XA}{lo:bk},a∈rngI n→lo 98=some (.lst ((az n).map λ(p:Nat)=>.int (ft G p)))→lo i=some (.int a)→Q (.int (ft G a)) hp→aZ bw (ai 98) (ai i) Q X lo hp:=λ{i a Q X lo} h1 h2 h3 h4=>by
  obtain⟨j,hj,rfl⟩:=xl h1
  exact rv h2 (rv h3 (mf (λp:Nat=>V.int (ft G p)) hj hn h4))
 refine cLp_pure jp (λe=>decide (ft G e.2=k)&&decide (ft G e.1≠k)) (λe=>.int (ft G e.1)) E [] hp (by rw[dY,bH];exact lim2 _ (ac W.el (by decide))) (nO _ _) (λe he acc2 ha2 R2 hR2=>EN ?_) ?_
 ·have m:=(W.ed e.1 e.2).mp he
  have i98:upd (upd (keepL [98,61] lo) 56 (.int e.1)) 57 (.int e.2) 98=_:=(upd_ne (by decide)).trans (kp (by decide) k98)
  have i61:upd (upd (keepL [98,61] lo) 56 (.int e.1)) 57 (.int e.2) 61=some (.int (k:Nat)):=(upd_ne (by decide)).trans (kp (by decide) k61)
  have i56:upd (upd (keepL [98,61] lo) 56 (.int e.1)) 57 (.int e.2) 56=some (.int e.1):=(upd_ne (by decide)).trans us
  have i57:upd (upd (keepL [98,61] lo) 56 (.int e.1)) 57 (.int e.2) 57=some (.int e.2):=us
  generalize upd (upd (keepL [98,61] lo) 56 (.int e.1)) 57 (.int e.2)=l2 at*
  refine item m.2.1 i98 i57 (rv i61 (eq_int (xb ?_)))
  by_cases c:ft G e.2=k
  ·refine iT (decide_eq_true c) (item m.1 i98 i56 (rv i61 (ne_int (xb ?_))))
   by_cases d:ft G e.1=k
   ·rw[if_neg (by simp[d])]at hR2
    exact iF (by simp[d]) (iF bL hR2)
   ·rw[if_pos (by simp[c,d])]at hR2
    exact iT (by simp[d]) (iT rfl ⟨ha2,item m.1 i98 i56 hR2⟩)
  ·rw[if_neg (by simp[c])]at hR2
   exact iF (by simpa using c) (iF bL hR2)
 ·rw[a8]
  have e:(E.filter λe=>decide (ft G e.2=k)&&decide (ft G e.1≠k)).map (λe=>V.int (ft G e.1))=(hG G E k).map .int:=by unfold hG;rw[bF];rfl
  rw[e];exact hR
end
theorem uc(a b:List Int):cy (dI a) (dI b)=decide (a=b):=by
 unfold dI
 rw[cy,eqv_ints]
theorem xM{hp:Hp}(G:List (List Int)):toD hp (.lst (G.map listV))=some (.list (G.map dI)):=by
 show(jo _).map _=_
 rw[lJ listV dI nM];rfl
theorem qE(G:List (List Int)):bO (.list (G.map dI))=true:=mu dI DO G
theorem nN(B:List Int):bO (dI B)=true:=fZ B
theorem CC(B:List Int):∀G:List (List Int),(G.map dI).any (λy=>cy y (dI B))=decide (B∈G):=by
 intro xs_
 induction xs_ with
 |nil=>
  simp
 |cons g G ih=>
  rw[ar,kh,ih,uc]
  by_cases h:g=B
  ·simp[h]
  ·have:¬B=g:=λz=>h z.symm
   simp[h,this]
theorem yO{Q:V→Hp→Prop}{hp:Hp}{B:List Int}{G:List (List Int)}(q:Q (.bool (!decide (B∈G))) hp):i2 (listV B) (.lst (G.map listV)) Q hp:=
 ⟨decide (B∈G),⟨_,_,xM G,nM B,qE G,nN B,(CC B G).symm⟩,q⟩
theorem xW{B:List Int}:∀(G:List (List Int))(m:Nat),G[m]?=some B→G.idxOf B≤m
 | [],m,h=>by simp at h
 |g::G,0,h=>by
  simp at h;subst h;simp
 |g::G,m+1,h=>by
  have:=xW G m (by simpa using h)
  rw[List.idxOf_cons]
  cases (g==B)with|true=>exact bx _|false=>exact aI this
section
variable{n:Nat}{L:Int→Int→Prop}{E:List (Int×Int)}{Bs:List (List Int)}{bp:Int→Nat}{G:List (List Int)}{l:Addr}{Q:Fw→bk→Hp→Prop}{X:XS}{loc:bk}{hp:Hp}
noncomputable def rndO(gs:List Int):O:=.lst (rndV gs)
theorem zg{v:V}{hp0:Hp}{l2:Addr}(hv:∀h h',same v h h')(hz:G.length≤1000):∀(Bs:List (List Int))(done:List Int)(loc:bk),done.length+Bs.length≤1000→loc 96=some (grV G)→loc 99=some (.ref l2)→
 (∀loc',(∀i,i≠100→loc' i=loc i)→Q .next loc' (upd hp l2 (rndO (done++gsOf G Bs))))→eK v hp0 (aG 100) oZ Q (Bs.map listV) loc (upd hp l2 (rndO done)):=by
 intro xs_
 induction xs_ with
 |nil=>
  intro done loc _ e96 e99 q
  have:=q loc λz z=>rfl
  unfold gsOf at this
  rw[bD]at this
  exact this
 |cons B Bs ih=>
  intro done loc hl e96 e99 q
  refine gv ?_
  have hlim:lim=1000000:=rfl
  simp only[aD]at hl
  have f96:upd loc 100 (listV B) 96=some (grV G):=(upd_ne (by decide)).trans e96
  have f99:upd loc 100 (listV B) 99=some (.ref l2):=(upd_ne (by decide)).trans e99
  have f100:upd loc 100 (listV B) 100=some (listV B):=us
  unfold oZ
  refine sq ?_
  refine rv f100 (rv f96 ?_)
  rw[rn]
  refine yO ?_
  refine xb ?_
  by_cases c:B∈G
  ·refine iF (by simpa using c) ?_
   refine nsq ?_
   refine rv f99 ?_
   refine⟨isLst_ref us,?_⟩
   refine rv f96 ?_
   rw[rn]
   refine⟨⟨_,rfl⟩,?_⟩
   refine rv f100 ?_
   have hi:=bh c
   refine⟨_,G.map dI,_,dI B,G.idxOf B,rfl,xM G,nM B,qE G,nN B,by rw[aj];exact lim2 _ hz,⟨dI B,?_,by rw[uc];simp⟩,λm x hm hx=>?_,?_⟩
   ·rw[e7,au hi,cf];rfl
   ·rw[e7]at hx
    obtain⟨g,hg,rfl⟩:=dA.mp hx
    rw[uc]
    refine decide_eq_false λe=>?_
    subst e
    exact cK (xW G m hg) hm
   ·dsimp only
    refine⟨aV rfl,?_⟩
    refine nl ?_
    refine gM us (by simp[rndV];exact lim2 _ (ac (aM _ _) hl)) (nx ⟨hv _ _,?_⟩)
    rw[lF]
    have e:O.lst (rndV done++[V.tup [.int (G.idxOf B:Nat)]])=rndO (done++[((G.idxOf B:Nat):Int)]):=by simp[rndV,rndO]
    rw[e]
    refine ih _ _ (jI hl) f96 f99 λloc' h=>?_
    have:=q loc' λi hi=>(h i hi).trans (upd_ne hi)
    rw[gsOf,if_pos c]at this
    rw[b7];exact this
  ·refine iT (by simpa using c) ?_
   refine sq ?_
   have:=q (upd loc 100 (listV B)) λi hi=>upd_ne hi
   rw[gsOf,if_neg c,bD]at this
   exact this
noncomputable def dT(g:Int):PyData:=.tuple [.int g]
theorem Ae{hp:Hp}(gs:List Int):toD hp (.lst (rndV gs))=some (.list (gs.map dT)):=by
 show(jo _).map _=_
 unfold rndV
 rw[lJ (λg=>V.tup [.int g]) dT λz=>rfl];rfl
theorem yC{hp:Hp}{a:Addr}{gs:List Int}(h:hp a=some (rndO gs)):toD hp (.ref a)=some (.list (gs.map dT)):=by
 show((pe hp a).bind jo).map _=_
 rw[tf h,d7]
 unfold rndV
 rw[lJ (λg=>V.tup [.int g]) dT λz=>rfl];rfl
theorem uz(gs:List Int):bO (.list (gs.map dT))=true:=mu dT (λg=>⟨rfl,by simp[dT,gU,gu]⟩) gs
structure mL(n:Nat)(l:Addr)(Bs G:List (List Int))(loc:bk):Prop where
 e89:loc 89=some (listV (rngI n))
 e90:loc 90=some (.ref l)
 e95:loc 95=some (.lst (Bs.map listV))
 e96:loc 96=some (grV G)
theorem mL.keep(V3:mL n l Bs G loc){i:Nat}{v:V}(h:i∉[89,90,95,96]):mL n l Bs G (upd loc i v):=by
 simp only[am,zH,or_false,not_or]at h
 exact⟨(upd_ne (aS h.1)).trans V3.e89,(upd_ne (aS h.2.1)).trans V3.e90,(upd_ne (aS h.2.2.1)).trans V3.e95,(upd_ne (aS h.2.2.2)).trans V3.e96⟩
noncomputable def uk:DT:=xf (cG q9 (ai 82) (ai 99)) (xf (cG jq (ai 80) (aZ jq (ai 79) (aQ .none))) (xf (cG q9 (ai 79) (aT ju (av (ai 67) aF))) (λQ z z hp=>Q false hp)))
theorem tC{Q:Bool→Hp→Prop}{X:XA}{h:Int→List Int}{m:Nat}{gs:List Int}{l2:Addr}{ringV:V}{rb:Bool}{d:PyData}(hm:m≤1000)(H:HG h m)(e67:loc 67=some (headsV h m))(e79:loc 79=some ringV)(e80:loc 80=some (.bool rb))(e82:loc 82=some (.lst (rndV gs)))(e99:loc 99=some (.ref l2))(hl2:hp l2=some (rndO gs))(one:ix ringV .none=some (!rb))(td:∀hp,toD hp ringV=some d)(sd:bO d=true)(r:fh h m ringV)(q:∀hp',Grow hp hp'→Q false hp'):uk Q X loc hp:=by
 unfold uk
 refine rv e82 (rv e99 ?_)
 refine rI (Ae gs) (yC hl2) (uz gs) ?_
 refine xb (iF (by decide) (rv e80 (rv e79 ?_)))
 refine⟨_,one,?_⟩
 refine⟨_,rfl,?_⟩
 refine xb (iF (by cases rb<;>decide) (rv e79 (rv e67 ?_)))
 refine uN hm H.len λv hp' r2 g2=>?_
 have e:=r.uniq r2
 subst e
 refine rI (td hp') (td hp') sd ?_
 refine xb (iF (by decide) ?_)
 exact q hp' g2
theorem xZ(P:PG n bp G):G.flatten.length=n:=by rw[P.pm.length_eq,dj]
theorem Ci{Q:V→Hp→Prop}{X:XA}{R:List Int}(hz:G.length≤1000)(hs:((R.drop 1).flatMap (gR G)).length≤6)(hR:R.length≤1000)(sub:∀k∈R,k∈rngI G.length)(e79:loc 79=some (listV R))(e96:loc 96=some (grV G))(q:Q (listV ((R.drop 1).flatMap (gR G))) hp):
 cI [96] (kP (ai 79) (aQ (.int 1)) (aQ .none) (aQ .none)) (aG 61) fNone (qe (aZ bw (ai 96) (ai 61)) (aG 52) fNone (dJ (ai 52))) Q X loc hp:=by
 have hlim:lim=1000000:=rfl
 refine rv e79 (cn (cn (cn ?_)))
 unfold listV
 rw[oS]
 refine⟨some 1,none,none,by rw[aj];exact lim2 _ hR,rfl,rfl,rfl,by trivial,?_⟩
 have ec:=mW (R.map V.int) 1
 rw[show((1:Nat):Int)=1 from rfl]at ec
 rw[ec,←i4]
 refine⟨_,rfl,?_⟩
 have e:((R.drop 1).flatMap λk=>(gR G k).map V.int)=((R.drop 1).flatMap (gR G)).map V.int:=by rw[kJ]
 refine mY (B:=6) V.int (λk=>(gR G k).map V.int) (R.drop 1) [] hp (by rw[e,aj];exact xi hs) trivial (λk hk acc ha K hK=>gv (zM ?_)) (by rw[a8,e];exact q)
 rw[aj]at ha
 refine rv (kp (by decide) e96) (rv us (BQ hz (sub k (mc hk)) ⟨_,rfl,?_⟩))
 exact cLp_pure V.int (λz=>true) V.int (gR G k) acc hp (lim2 _ (ac ha (by decide))) trivial (λa z acc2 ha2 K2 hK2=>gv (zM ⟨ha2,rv us hK2⟩)) (by rw[cm.mpr (λz z=>rfl)];exact hK)
theorem y8{Q:V→Hp→Prop}{X:XA}{R:List Int}{m:List Int}(hz:G.length≤900)(hR:R.length≤1000)(e79:loc 79=some (listV R))(e96:loc 96=some (grV G))(e101:loc 101=some (listV m))(q:Q (grV (((rngI G.length).filter λk=>decide (k∉R)).map (gR G)++[m])) hp):
 aZ ef (cI [96,79] (aT cJ (av (aT d9 (av (ai 96) aF)) aF)) (aG 61) (cG i2 (ai 61) (ai 79)) (dJ (aZ bw (ai 96) (ai 61)))) (jS (av (ai 101) aF)) Q X loc hp:=by
 have hz1:G.length≤1000:=ac hz (by decide)
 rw[d1]
 refine Bj (n:=G.length) (λk=>decide ((k:Int)∉R)) (λk=>listV (gR G (k:Nat))) hz1 (λR hR=>rv e96 (nl (t8 hz1 hR))) (λk hk R' hR'=>?_) (λk hk z R' hR'=>rv (kp (by decide) e96) (rv us (BQ hz1 (dP.mpr ⟨aN _,dm.mpr hk⟩) hR'))) ?_
 ·exact rv us (rv (kp (by decide) e79) (notIn_ints (xs:=R) (xb hR')))
 ·refine rv e101 ⟨aV rfl,F3 ⟨?_,?_⟩⟩
  ·have hfl:=bj (λk:Nat=>decide ((k:Int)∉R)) (az G.length)
   rw[aK]at hfl
   rw[aj]
   exact lim2 _ (ac (aI (ac hfl hz)) (by decide))
  ·rw[rn,dG,rngI,p8,bF,bF]at q
   exact q
end
noncomputable def xA:DS:=
 (aA (bB (mi aF) (aG 99))
 (aA (i8 (ai 95) (aG 100)
 oZ)
 (aA (kg uk
 (aA (gH (aQ (.bool false)))
 aH)
 aH)
 (aA (kg (cG A7 (ai 79) (aQ .none))
 (aA (gH (aZ pX (aT d9 (av (ai 99) aF)) (aT d9 (av (ai 95) aF))))
 aH)
 aH)
 (aA (bB (aT lr (av (cI [96] (kP (ai 79) (aQ (.int 1)) (aQ .none) (aQ .none)) (aG 61) fNone (qe (aZ bw (ai 96) (ai 61)) (aG 52) fNone (dJ (ai 52)))) aF)) (aG 101))
 (aA (bB (aZ ef (cI [96,79] (aT cJ (av (aT d9 (av (ai 96) aF)) aF)) (aG 61) (cG i2 (ai 61) (ai 79)) (dJ (aZ bw (ai 96) (ai 61)))) (jS (av (ai 101) aF))) (aG 96))
 aH))))))
section
variable{n:Nat}{L:Int→Int→Prop}{E:List (Int×Int)}{Bs:List (List Int)}{bp:Int→Nat}{G:List (List Int)}{l:Addr}{Q:Fw→bk→Hp→Prop}{X:XS}{loc:bk}{hp:Hp}
theorem Ak(W:Wd n L E Bs bp)(P:PG n bp G)(hn:n≤6)(hz:G.length≤6)(hB:Bs.length≤6)(V3:mL n l Bs G loc)(hl:hp l=some (stepsO E)){ringV:V}{rb:Bool}(st:CN (hG G E) G.length (gsOf G Bs) (.tup [ringV,.bool rb,.lst (rndV (gsOf G Bs))]))(e67:loc 67=some (headsV (hG G E) G.length))(e79:loc 79=some ringV)(e80:loc 80=some (.bool rb))(e82:loc 82=some (.lst (rndV (gsOf G Bs))))
 (q1:∀loc' hp',Q (.ret (.bool true)) loc' hp')
 (q2:∀G' loc' hp',PG n bp G'→G'.length+1≤G.length→mL n l Bs G' loc'→hp' l=some (stepsO E)→Q .next loc' hp'):xA Q X loc hp:=by
 have hz1:G.length≤1000:=ac hz (by decide)
 have H:=P.hg W
 unfold xA
 refine sq ?_
 refine⟨bx _,λl2 hl2=>?_⟩
 refine gv ?_
 refine nsq ?_
 have V4:mL n l Bs G (upd loc 99 (.ref l2)):=V3.keep (by decide)
 have f67:upd loc 99 (.ref l2) 67=_:=(upd_ne (by decide)).trans e67
 have f79:upd loc 99 (.ref l2) 79=_:=(upd_ne (by decide)).trans e79
 have f80:upd loc 99 (.ref l2) 80=_:=(upd_ne (by decide)).trans e80
 have f82:upd loc 99 (.ref l2) 82=_:=(upd_ne (by decide)).trans e82
 have f99:upd loc 99 (.ref l2) 99=some (.ref l2):=us
 generalize upd loc 99 (.ref l2)=l1 at*
 refine rv V4.e95 ?_
 refine⟨_,rfl,?_⟩
 refine zg (v:=.lst (Bs.map listV)) (λz z=>trivial) hz1 Bs [] l1 (xi (ac hB (by decide))) V4.e96 f99 λlo hlo=>nsq ?_
 rw[a8]
 have V5:mL n l Bs G lo:=⟨(hlo _ (by decide)).trans V4.e89,(hlo _ (by decide)).trans V4.e90,(hlo _ (by decide)).trans V4.e95,(hlo _ (by decide)).trans V4.e96⟩
 have g67:=(hlo 67 (by decide)).trans f67
 have g79:=(hlo 79 (by decide)).trans f79
 have g80:=(hlo 80 (by decide)).trans f80
 have g82:=(hlo 82 (by decide)).trans f82
 have g99:=(hlo 99 (by decide)).trans f99
 clear hlo
 have hne:l2≠l:=by rintro rfl;rw[hl]at hl2;cases hl2
 have hl':upd hp l2 (rndO (gsOf G Bs)) l=some (stepsO E):=(upd_ne hne.symm).trans hl
 have hd':upd hp l2 (rndO (gsOf G Bs)) l2=some (rndO (gsOf G Bs)):=us
 generalize upd hp l2 (rndO (gsOf G Bs))=hp1 at*
 cases st with
 |no r=>
  refine tC (d:=.none) hz1 H g67 g79 g80 g82 g99 hd' rfl (λz=>rfl) (by decide) r λhp2 g2=>?_
  refine iF (by decide) ?_
  refine nsq ?_
  refine rv g79 ?_
  refine⟨_,rfl,?_⟩
  refine xb (iT rfl ?_)
  refine sq ?_
  have ag:=uP W P r
  have hlen:=y7 ag
  have hd2:hp2 l2=some (.lst (rndV (gsOf G Bs))):=g2 _ _ hd'
  refine rv g99 (nl (EL hd2 (by simp[rndV];rw[hlen];exact lim2 _ (ac hB (by decide))) (rv V5.e95 (nl (A5 ?_)))))
  refine⟨by rw[aj];exact lim2 _ (ac hB (by decide)),?_⟩
  rw[DN]
  refine xg ?_
  have e:(decide (((rndV (gsOf G Bs)).length:Int)=((Bs.map listV).length:Int)))=true:=by simp[rndV,hlen]
  rw[e]
  exact q1 _ _
 |yes R r=>
  have RL:=yI H r
  obtain⟨PM,hM⟩:=P.melt W RL
  have hRl:R.length≤10:=by
   have h1:(R.drop 1).length≤(rngI G.length).length:=gK _ _ RL.nd λv hv=>RL.sub v ((RL.mem v).mpr hv)
   rw[dj,iW]at h1;exact ac (wQ h1) (ac (aI hz) (by decide))
  have hsz:((R.drop 1).flatMap (gR G)).length≤6:=by
   have h1:=xZ PM
   unfold melt at h1
   rw[wT,aJ]at h1
   simp only[iA,List.flatten_nil,bD]at h1
   have h2:=(pK ((R.drop 1).flatMap (gR G))).length_eq
   exact ac (ax h2.symm) (ac (cP _ _) (ac (ax h1) hn))
  refine tC (d:=dI R) hz1 H g67 g79 g80 g82 g99 hd' rfl (λhp=>fW R) (nN R) r λhp2 g2=>?_
  refine iF (by decide) ?_
  refine nsq ?_
  refine rv g79 ?_
  refine⟨_,rfl,?_⟩
  refine xb (iF (by decide) ?_)
  refine nsq ?_
  rw[eY,dS,cD]
  refine Ci hz1 hsz (ac hRl (by decide)) RL.sub g79 V5.e96 ?_
  refine nl ?_
  show lr [.lst (gp V.int _)] _ _ _
  rw[tB]
  refine⟨bM hsz (by decide),?_⟩
  refine gv ?_
  refine nsq ?_
  have V6:mL n l Bs G (upd lo 101 (listV (sortZ ((R.drop 1).flatMap (gR G))))):=V5.keep (by decide)
  have k79:upd lo 101 (listV (sortZ ((R.drop 1).flatMap (gR G)))) 79=some (listV R):=(upd_ne (by decide)).trans g79
  have k101:upd lo 101 (listV (sortZ ((R.drop 1).flatMap (gR G)))) 101=_:=us
  show bB _ _ _ _ (upd lo 101 (listV (sortZ ((R.drop 1).flatMap (gR G))))) hp2
  generalize upd lo 101 (listV (sortZ ((R.drop 1).flatMap (gR G))))=lo3 at*
  refine y8 (ac hz (by decide)) (ac hRl (by decide)) k79 V6.e96 k101 ?_
  refine gv ?_
  refine nx ?_
  exact q2 (melt G R) _ _ PM hM ⟨(upd_ne (by decide)).trans V6.e89,(upd_ne (by decide)).trans V6.e90,(upd_ne (by decide)).trans V6.e95,us⟩ (g2 _ _ hl')
theorem stage_body(W:Wd n L E Bs bp)(P:PG n bp G)(hn:n≤6)(hz:G.length≤6)(hB:Bs.length≤6)(V3:mL n l Bs G loc)(hl:hp l=some (stepsO E))
 (q1:∀loc' hp',Q (.ret (.bool true)) loc' hp')
 (q2:∀G' loc' hp',PG n bp G'→G'.length+1≤G.length→mL n l Bs G' loc'→hp' l=some (stepsO E)→Q .next loc' hp'):mR Q X loc hp:=by
 unfold mR
 refine sq ?_
 refine Co P (ac hz (by decide)) (ac hn (by decide)) V3.e89 V3.e96 ?_
 refine gv ?_
 refine nsq ?_
 generalize hhv:V.lst ((az n).map λ(p:Nat)=>.int (ft G p))=hv
 have V4:mL n l Bs G (upd loc 98 hv):=V3.keep (by decide)
 have f98:upd loc 98 hv 98=some hv:=us
 generalize upd loc 98 hv=l1 at*
 subst hhv
 refine AF W P (ac hz (by decide)) (ac hn (by decide)) V4.e90 hl V4.e96 f98 ?_
 refine gv ?_
 refine nsq ?_
 have V5:mL n l Bs G (upd l1 67 (headsV (hG G E) G.length)):=V4.keep (by decide)
 have f67:upd l1 67 (headsV (hG G E) G.length) 67=some (headsV (hG G E) G.length):=us
 generalize upd l1 67 (headsV (hG G E) G.length)=l2 at*
 refine rv f67 ?_
 refine tN (gs:=gsOf G Bs) (ac hz (by decide)) (P.hg W) (AA W P Bs 0 [] rfl λk hk=>⟨λh=>absurd h (by simp),λh=>absurd h (lO _)⟩) λv hp1 st g1=>?_
 have tail:∀(ringV:V)(rb:Bool),CN (hG G E) G.length (gsOf G Bs) (.tup [ringV,.bool rb,.lst (rndV (gsOf G Bs))])→xA Q X (upd (upd (upd l2 79 ringV) 80 (.bool rb)) 82 (.lst (rndV (gsOf G Bs)))) hp1:=λringV rb st'=>
  Ak W P hn hz hB (((V5.keep (by decide)).keep (by decide)).keep (by decide)) (g1 _ _ hl) st' ((upd_ne (by decide)).trans ((upd_ne (by decide)).trans ((upd_ne (by decide)).trans f67))) ((upd_ne (by decide)).trans ((upd_ne (by decide)).trans us)) ((upd_ne (by decide)).trans us) us q1 q2
 cases st with
 |no r=>
  refine xt ?_
  simp only[rN,rO]
  exact tail _ _ (.no r)
 |yes R r=>
  refine xt ?_
  simp only[rN,rO]
  exact tail _ _ (.yes R r)
theorem tK{v:V}{hp0:Hp}(hv:∀h h',same v h h')(W:Wd n L E Bs bp)(hn:n≤6)(hn1:1≤n)(hB:Bs.length≤6)(q1:∀loc' hp',Q (.ret (.bool true)) loc' hp'):∀(js:List Nat)(G:List (List Int))(loc:bk)(hp:Hp),js.length≤6→PG n bp G→G.length≤js.length→mL n l Bs G loc→hp l=some (stepsO E)→eK v hp0 (aG 97) mR Q (js.map λ(j:Nat)=>.int (j:Nat)) loc hp:=by
 intro xs_
 induction xs_ with
 |nil=>
  intro G loc hp _ P hG _ _
  have h1:=xZ P
  have h2:G=[]:=kN.mp (by simpa using hG)
  rw[h2]at h1
  exact absurd (h1.symm:n=0) (e9 hn1)
 |cons j js ih=>
  intro G loc hp hj P hG V3 hl
  refine gv ?_
  simp only[aD]at hj hG
  exact stage_body W P hn (ac hG hj) hB (V3.keep (by decide)) hl (λloc' hp'=>q1 loc' hp') λG' loc' hp' P' hG' V' hl'=>⟨hv _ _,ih G' loc' hp' (cw hj) P' (Nat.le_of_succ_le_succ (ac hG' hG)) V' hl'⟩
end
theorem Au(f:Ln→V)(ps:List Ln):ps.map f=(az ps.length).map λi=>f (ps.getD i ([],0)):=by
 apply kc
 intro i
 by_cases h:i<ps.length
 ·simp[h]
 ·simp[h]
theorem vY{v:V}{hp0 hp:Hp}{K:List V→Hp→Prop}{loc:bk}(hv:∀h h',same v h h'):∀(xs:List Int)(acc:List V),acc.length+xs.length≤100→(∀ps:List Ln,ps.length=xs.length→(∀p∈ps,jl p)→K (acc++ps.map λp=>.str (tx p)) hp)→
 lQ v hp0 (aG 44) fNone (dJ (aT jt (av (ai 44) aF))) K (xs.map .int) acc loc hp:=by
 intro xs_
 induction xs_ with
 |nil=>
  intro acc _ q
  have:=q [] rfl (by simp)
  simpa[cLpN]using this
 |cons x xs ih=>
  intro acc hz q
  have hlim:lim=1000000:=rfl
  simp only[aD]at hz
  rw[ar,zT,iB,rQ,if_pos rfl,rC,dS,cD,be,rd us,dz]
  refine⟨lim2 _ (ac (aM _ _) (ac hz (by decide))),uM λp hp=>⟨hv _ _,?_⟩⟩
  refine ih _ (jI hz) λps h1 h2=>?_
  have:=q (p::ps) (by simp[h1]) (λr hr=>by
   rcases am.mp hr with rfl|hr
   ·exact hp
   ·exact h2 r hr)
  rw[b7]
  exact this
theorem colT_take(p:Ln){T:Nat}(h:T≤5):(km 5 p).take T=km T p:=by
 have:∀T≤5,(bn 1 5).take T=bn 1 T:=by decide
 unfold km
 rw[←m5,this T h]
theorem yK{bp:Int→Nat}(n:Nat):PG n bp ((rngI n).map λa=>[a]):=by
 refine⟨?_,λg hg=>?_⟩
 ·have:∀xs:List Int,(xs.map λa=>[a]).flatten=xs:=λxs=>by
   induction xs with
   |nil=>rfl
   |cons x xs ih=>simp[ih]
  rw[this]
 ·obtain⟨a,_,rfl⟩:=ay.mp hg
  refine⟨by simp,by simp,λx hx y hy=>?_⟩
  simp at hx hy
  rw[hx,hy]
noncomputable def xU:DS:=
 (aA (bB (cI [] (ai 64) (aG 45) fNone (dJ (aT (pz cW dU) (av (ai 45) aF)))) (aG 88))
 (aA (bB (aT rD (av (aT cJ (av (aT d9 (av (ai 64) aF)) aF)) aF)) (aG 89))
 (aA (bB (cI [] (ai 64) (aG 45) fNone (dJ (cI [45] (aT iI (av (aQ (.int 1)) (av (aQ (.int 6)) aF))) (aG 48) fNone (dJ (aT ij (av (ai 45) (av (ai 48) aF))))))) (aG 51))
 (aA (bB (mi aF) (aG 90))
 (aA (i8 (ai 89) (aG 56)
 oX)
 (aA (bB (aT ik (av (cI [87] (ai 51) (aG 49) fNone (dJ (kP (ai 49) (aQ .none) (ai 87) (aQ .none)))) aF)) (aG 95))
 (aA (bB (cI [] (ai 89) (aG 52) fNone (dJ (jS (av (ai 52) aF)))) (aG 96))
 (aA (i8 (ai 89) (aG 97)
 mR)
 (aA (gH (aQ (.bool false)))
 aH)))))))))
theorem wp{Q:Fw→bk→Hp→Prop}{X:XS}{loc:bk}{hp:Hp}{ln:Nat→Ln}{n T:Nat}(hn456:n=4∨n=5∨n=6)(hT:1≤T)(hT5:T≤5)(ok:∀i<n,jl (ln i))(b64:loc 64=some (textsV ln n))(b87:loc 87=some (.int (T:Nat)))
 (q1:∀loc' hp',Q (.ret (.bool true)) loc' hp'):xU Q X loc hp:=by
 have hn6:n≤6:=BL hn456
 have hn1:n≤1000:=ac hn6 (by decide)
 have hnr:(az n).length≤1000:=by rw[aK];exact hn1
 unfold xU
 refine sq (rv b64 ⟨_,rfl,?_⟩)
 refine AW (λi=>V.str (tx (ln i))) (λz=>true) (λi=>wOf (ln i)) (az n) [] _ (by rw[dY,bH];exact lim2 _ hnr) (λz z=>trivial) (λi hi hp1 g1 acc ha R hR=>gv (zM ⟨ha,rv us (nl (CA (ok i (aW.mp hi)) λhp2 g2=>hR hp2 g2))⟩)) λhp g=>?_
 clear g
 rw[cm.mpr (λz z=>rfl),a8]
 show aG 88 (leadsV ln n) _ _ _ _
 refine gv (nsq ?_)
 have c87:upd loc 88 (leadsV ln n) 87=_:=(upd_ne (by decide)).trans b87
 have c64:upd loc 88 (leadsV ln n) 64=_:=(upd_ne (by decide)).trans b64
 have c88:upd loc 88 (leadsV ln n) 88=_:=us
 generalize upd loc 88 (leadsV ln n)=l3 at*
 refine rv c64 (nl (A5 ⟨by rw[aj];exact lim2 _ hnr,nl (A3 (nl ?_))⟩))
 rw[aj,aK]
 refine⟨0,(n:Int),rfl,rng_small (by decide) (sG hn6 (by decide)) (aN _),by rw[ut];exact bC.mpr (lim2 _ hn1),?_⟩
 rw[Dd]
 show aG 89 (listV (rngI n)) _ _ _ _
 refine gv (nsq ?_)
 have d87:upd l3 89 (listV (rngI n)) 87=_:=(upd_ne (by decide)).trans c87
 have d64:upd l3 89 (listV (rngI n)) 64=some (textsV ln n):=(upd_ne (by decide)).trans c64
 have d88:upd l3 89 (listV (rngI n)) 88=_:=(upd_ne (by decide)).trans c88
 have d89:upd l3 89 (listV (rngI n)) 89=_:=us
 generalize upd l3 89 (listV (rngI n))=l4 at*
 refine rv d64 ⟨_,rfl,vN (λi=>V.str (tx (ln i))) (λi=>.lst (km 5 (ln i))) hnr trivial (λi hi R hR=>?_) ?_⟩
 ·rw[oQ,dS,cD,ek,cD,ek,dz,lL]
  refine⟨_,fK (by decide) (by decide),?_⟩
  have er:=lu 1 6
  rw[show((1:Nat):Int)=1 from rfl,show((6:Nat):Int)=6 from rfl]at er
  rw[er]
  exact vN (λt:Nat=>V.int (t:Nat)) (λt=>.int (cv (ln i) t:Nat)) (by trivial) trivial (λt ht R2 hR2=>rv (kp (by decide) us) (rv us (nl (sf (ok i (aW.mp hi)) (bc.mp ht).1 hR2)))) hR
 show aG 51 (colsV ln n 5) _ _ _ _
 refine gv (nsq ⟨bx _,λl hl=>gv (nsq ?_)⟩)
 have E0:mM ln n T l (upd (upd l4 51 (colsV ln n 5)) 90 (.ref l)):=⟨(upd_ne (by decide)).trans us,(upd_ne (by decide)).trans ((upd_ne (by decide)).trans d64),(upd_ne (by decide)).trans ((upd_ne (by decide)).trans d87),(upd_ne (by decide)).trans ((upd_ne (by decide)).trans d88),(upd_ne (by decide)).trans ((upd_ne (by decide)).trans d89),us⟩
 generalize upd (upd l4 51 (colsV ln n 5)) 90 (.ref l)=l5 at*
 refine rv E0.e89 ⟨_,rfl,?_⟩
 rw[mV]
 refine uC (v:=listV (rngI n)) (ln:=ln) (T:=T) (l:=l) (hp:=hp) (λz z=>trivial) ok hn6 hT5 (az n) [] l5 (λj hj=>aW.mp hj) (xi (by rw[aK];exact ac (cr 6 hn6) (by decide))) E0 λl6 E1=>nsq ?_
 rw[a8]
 have W:=B4 (ln:=ln) (T:=T) hn456 hT
 have hst:upd hp l (stepsO ((az n).flatMap (rowE ln n T))) l=some (stepsO (pq ln n T)):=us
 generalize upd hp l (stepsO ((az n).flatMap (rowE ln n T)))=hp2 at*
 rw[eY,dS,cD]
 refine rv E1.e51 ⟨_,rfl,vN (λi=>V.lst (km 5 (ln i))) (λi=>.lst (km T (ln i))) hnr trivial (λi hi R hR=>rv us (cn (rv (kp (by decide) E1.e87) (cn (EP ⟨none,some (T:Int),none,by simp[km,lim],rfl,rfl,rfl,nofun,?_⟩))))) ?_⟩
 ·rw[pG,colT_take _ hT5]
  exact hR
 refine nl (sg (ln:=ln) (n:=n) (T:=T) hn456 hT hT5 λhp3 g3=>?_)
 have hB:(blR (ordL ln n) (cutsL ln n T)).length≤6:=by
  have h1:(cutsL ln n T).length≤n+1:=ac (bj _ _) (by simp)
  unfold blR
  rw[aj,aK]
  exact ac (mB h1) hn6
 generalize blR (ordL ln n) (cutsL ln n T)=Bs at*
 generalize bpR (ordL ln n) (cutsL ln n T)=bp at*
 refine gv (nsq ?_)
 have E2:mM ln n T l (upd l6 95 (.lst (Bs.map listV))):=E1.keep (by decide)
 have f95:upd l6 95 (.lst (Bs.map listV)) 95=some (.lst (Bs.map listV)):=us
 generalize upd l6 95 (.lst (Bs.map listV))=l7 at*
 refine rv E2.e89 ⟨_,rfl,vN V.int (λa=>listV [a]) (by rw[dj];exact hn1) trivial (λa z R hR=>rv us ⟨aV rfl,hR⟩) ?_⟩
 have eg:V.lst ((rngI n).map λa=>listV [a])=grV ((rngI n).map λa=>[a]):=by rw[rn,bF];rfl
 rw[eg]
 refine gv (nsq ?_)
 have V3:mL n l Bs ((rngI n).map λa=>[a]) (upd l7 96 (grV ((rngI n).map λa=>[a]))):=⟨(upd_ne (by decide)).trans E2.e89,(upd_ne (by decide)).trans E2.e90,(upd_ne (by decide)).trans f95,us⟩
 generalize upd l7 96 (grV ((rngI n).map λa=>[a]))=l8 at*
 refine rv V3.e89 ⟨_,rfl,?_⟩
 rw[mV]
 exact tK (v:=listV (rngI n)) (λz z=>trivial) W hn6 (ac (by decide) (n2 hn456)) hB (λloc' hp'=>xg (q1 loc' hp')) (az n) _ l8 hp3 (by rw[aK];exact hn6) (yK n) (by rw[aj,dj,aK];exact b8 _) V3 (g3 _ _ hst)
theorem Cn(ns:List Int)(hns:ns.length≤63):xJ [.lst (ns.map .int)] (λv z=>v= .bool true) noXA (λz=>ae):=by
 have hlim:lim=1000000:=rfl
 refine⟨[(86,.lst (ns.map .int))],rfl,?_⟩
 have o86:locOf [(86,V.lst (ns.map .int))] 86=some (.lst (ns.map .int)):=rfl
 generalize locOf [(86,V.lst (ns.map .int))]=lo at*
 unfold Bo
 have hf:=fm ns.sum (b:=5) (by decide)
 obtain⟨T,eT,hT,hT5⟩:∃T:Nat,5 - ns.sum.fmod 5=(T:Nat)∧1≤T∧T≤5:=⟨(5 - ns.sum.fmod 5).toNat,A6 (mD (oE hf.2)),Int.lt_toNat.mpr (Int.sub_pos_of_lt hf.2),Int.toNat_le.mpr (BA 5 hf.1)⟩
 refine sq ?_
 rw[eY,d1,ek,d1,dS,cD,be,rd o86,dz,Cv,ek,pt]
 refine⟨by decide,?_⟩
 rw[pv,eT]
 refine gv (nsq ?_)
 have a86:upd lo 87 (.int (T:Nat)) 86=some (.lst (ns.map .int)):=(upd_ne (by decide)).trans o86
 have a87:upd lo 87 (.int (T:Nat)) 87=some (.int (T:Nat)):=us
 generalize upd lo 87 (.int (T:Nat))=l1 at*
 have ec:=pG (ns.map V.int) 2
 rw[←m5]at ec
 have h2:(ns.take 2).length≤2:=by rw[o5];exact Nat.min_le_left _ _
 rw[eY,oQ,d1,rB]
 refine⟨aV rfl,rv a86 (cn (cn (cn (EP ⟨none,some (2:Nat),none,by rw[aj];exact lim2 _ (ac hns (by decide)),rfl,rfl,rfl,nofun,?_⟩))))⟩
 rw[ec]
 refine F3 ⟨by rw[aj];exact lim2 _ (ac (dF h2 4) (by decide)),_,rfl,?_⟩
 show lQ (.lst ((12::20::1::0::ns.take 2).map .int)) _ _ _ _ _ ((12::20::1::0::ns.take 2).map .int) _ _ _
 refine vY (by simp) _ [] (xi (ac (bI h2 4) (by decide))) λps hps okp=>?_
 simp only[aD]at hps
 rw[a8,Au (λp=>.str (tx p)) ps]
 obtain⟨n,hn⟩:∃n,n=ps.length:=⟨_,rfl⟩
 obtain⟨ln,hln⟩:∃ln:Nat→Ln,ln=λi=>ps.getD i ([],0):=⟨_,rfl⟩
 have e5:V.lst ((az ps.length).map λi=>.str (tx (ps.getD i ([],0))))=textsV ln n:=by rw[hn,hln];rfl
 rw[e5]
 have ok:∀i<n,jl (ln i):=λi hi=>by
  rw[hn]at hi
  rw[hln]
  dsimp only
  rw[aX,au hi]
  exact okp _ (iX hi)
 have hn456:n=4∨n=5∨n=6:=by rw[hn,hps];exact(by decide:∀k≤2,k+1+1+1+1=4∨k+1+1+1+1=5∨k+1+1+1+1=6) _ h2
 clear e5 hln hn hps okp ec eT hf h2
 refine gv (nsq ?_)
 have b87:upd l1 64 (textsV ln n) 87=some (.int (T:Nat)):=(upd_ne (by decide)).trans a87
 have b64:upd l1 64 (textsV ln n) 64=some (textsV ln n):=us
 generalize upd l1 64 (textsV ln n)=l2 at*
 exact wp hn456 hT hT5 ok b64 b87 λhp' loc'=>rfl
end Mine
open PySem PySem.W PySem.W.X PyProof.Rows PySem.W.ZRun Mine
set_option tactic.hygienic true in
set_option maxRecDepth 100000 in
set_option maxHeartbeats 0 in
theorem PySem.Challenge.cw_mr0354_02_holds : PySem.Challenge.rw_mr0354_02.Holds := by
 w_on
 refine Hd.holds ?_
 intro w s₀ s₁ mg mb G y fa o pm cd doc dV kV ho hd hcd hD hmg hg args vals as L hpre hlay hrd hwl hlo
 have KX:(Hd.K w.params).In s₁.heap:=(Hd.kx y).keeps L.keeps
 refine Ground.open G ?_
 intro T B D TE TW
 wrow_args hpre hlay hrd hwl hlo
 have hfa:fa=248:=by
  have e:=hmg.symm.trans (oL KX T.g (show nsIn (Hd.K w.params) mainGlobals (ah "law")=some (some (.ref 248)) by kernel_rfl))
  cases e;rfl
 subst hfa
 all_lens
 rename_i ns _ _ _ _ _ _ _ _ _ _ _ _ _ _ _ hlen _ _ _
 clear hmg ho hD hcd hd y G B D TE TW
 have hlen':ns.length≤63:=by omega
 have hzK:(s₁.heap.get? sysModules).isSome=true:=by rw[KX sysModules (Hd.ob w.params sysModules) (by kernel_rfl)];rfl
 have tp:eL (P1 w s₁.heap (Hd.K w.params)) mg mb:=⟨KX,T.g,T.b,T.nolimit⟩
 have fn36:cE (P1 w s₁.heap (Hd.K w.params)) 36 (bV (dO (bV bR 4)) 1) (bdPos [0,1]):=cE.pos2 ⟨KX 36 (Hd.ob w.params 36) (by kernel_rfl),(show(Hd.ob w.params 36).data=cQ (Hd.fdO (Hd.ob w.params 36)) by kernel_rfl),cH KX (by kernel_rfl),(by kernel_rfl),(by kernel_rfl),(by kernel_rfl),(by kernel_rfl),(by kernel_rfl),(by decide+kernel)⟩ (λx y=>by kernel_rfl)
 have fn80:cE (P1 w s₁.heap (Hd.K w.params)) 80 (bV (dO (bV bR 6)) 1) (bdPos [0,1]):=cE.pos2 ⟨KX 80 (Hd.ob w.params 80) (by kernel_rfl),(show(Hd.ob w.params 80).data=cQ (Hd.fdO (Hd.ob w.params 80)) by kernel_rfl),cH KX (by kernel_rfl),(by kernel_rfl),(by kernel_rfl),(by kernel_rfl),(by kernel_rfl),(by kernel_rfl),(by decide+kernel)⟩ (λx y=>by kernel_rfl)
 have fn87:cE (P1 w s₁.heap (Hd.K w.params)) 87 (bV (dO (bV bR 6)) 2) (lI 0 1 4):=cE.star2 ⟨KX 87 (Hd.ob w.params 87) (by kernel_rfl),(show(Hd.ob w.params 87).data=cQ (Hd.fdO (Hd.ob w.params 87)) by kernel_rfl),cH KX (by kernel_rfl),(by kernel_rfl),(by kernel_rfl),(by kernel_rfl),(by kernel_rfl),(by kernel_rfl),(by decide+kernel)⟩ (λx y rest=>by cases rest<;>kernel_rfl)
 have fn73:cE (P1 w s₁.heap (Hd.K w.params)) 73 (bV (dO (bV bR 6)) 0) (nJ 0 10):=cE.def1 tp ⟨KX 73 (Hd.ob w.params 73) (by kernel_rfl),(show(Hd.ob w.params 73).data=cQ (Hd.fdO (Hd.ob w.params 73)) by kernel_rfl),cH KX (by kernel_rfl),(by kernel_rfl),(by kernel_rfl),(by kernel_rfl),(by kernel_rfl),(by kernel_rfl),(by decide+kernel)⟩ (λs x X=>kp_binds X (λS=>by kernel_rfl))
 have fn127:cE (P1 w s₁.heap (Hd.K w.params)) 127 (bV (dO (bV bR 6)) 8) (bdPos [0]):=cE.pos1 ⟨KX 127 (Hd.ob w.params 127) (by kernel_rfl),(show(Hd.ob w.params 127).data=cQ (Hd.fdO (Hd.ob w.params 127)) by kernel_rfl),cH KX (by kernel_rfl),(by kernel_rfl),(by kernel_rfl),(by kernel_rfl),(by kernel_rfl),(by kernel_rfl),(by decide+kernel)⟩ (λx=>by kernel_rfl)
 have ownCE:EU "CycleError" 55 [.type "ValueError",.type "Exception",.type "BaseException",.type "object"] "ValueError.__new__" mg s₁.heap:=own_of_in KX (topRead_of T) (by kernel_rfl) (by kernel_rfl)
 have fn92:cE (P1 w s₁.heap (Hd.K w.params)) 92 (bV (dO (bV bR 6)) 3) (bdPos [0]):=cE.pos1 ⟨KX 92 (Hd.ob w.params 92) (by kernel_rfl),(show(Hd.ob w.params 92).data=cQ (Hd.fdO (Hd.ob w.params 92)) by kernel_rfl),cH KX (by kernel_rfl),(by kernel_rfl),(by kernel_rfl),(by kernel_rfl),(by kernel_rfl),(by kernel_rfl),(by decide+kernel)⟩ (λx=>by kernel_rfl)
 have fn99:cE (P1 w s₁.heap (Hd.K w.params)) 99 (bV (dO (bV bR 6)) 4) (bdPos [0]):=cE.pos1 ⟨KX 99 (Hd.ob w.params 99) (by kernel_rfl),(show(Hd.ob w.params 99).data=cQ (Hd.fdO (Hd.ob w.params 99)) by kernel_rfl),cH KX (by kernel_rfl),(by kernel_rfl),(by kernel_rfl),(by kernel_rfl),(by kernel_rfl),(by kernel_rfl),(by decide+kernel)⟩ (λx=>by kernel_rfl)
 have fn106:cE (P1 w s₁.heap (Hd.K w.params)) 106 (bV (dO (bV bR 6)) 5) (bdPos [0]):=cE.pos1 ⟨KX 106 (Hd.ob w.params 106) (by kernel_rfl),(show(Hd.ob w.params 106).data=cQ (Hd.fdO (Hd.ob w.params 106)) by kernel_rfl),cH KX (by kernel_rfl),(by kernel_rfl),(by kernel_rfl),(by kernel_rfl),(by kernel_rfl),(by kernel_rfl),(by decide+kernel)⟩ (λx=>by kernel_rfl)
 have fn120:cE (P1 w s₁.heap (Hd.K w.params)) 120 (bV (dO (bV bR 6)) 7) (bdStar1 0 21):=cE.star1 ⟨KX 120 (Hd.ob w.params 120) (by kernel_rfl),(show(Hd.ob w.params 120).data=cQ (Hd.fdO (Hd.ob w.params 120)) by kernel_rfl),cH KX (by kernel_rfl),(by kernel_rfl),(by kernel_rfl),(by kernel_rfl),(by kernel_rfl),(by kernel_rfl),(by decide+kernel)⟩ (λx rest=>by cases rest<;>kernel_rfl)
 have fn158:cE (P1 w s₁.heap (Hd.K w.params)) 158 (bV (dO (bV bR 8)) 1) (bdPos [0,25]):=cE.pos2 ⟨KX 158 (Hd.ob w.params 158) (by kernel_rfl),(show(Hd.ob w.params 158).data=cQ (Hd.fdO (Hd.ob w.params 158)) by kernel_rfl),cH KX (by kernel_rfl),(by kernel_rfl),(by kernel_rfl),(by kernel_rfl),(by kernel_rfl),(by kernel_rfl),(by decide+kernel)⟩ (λx y=>by kernel_rfl)
 have fn165:cE (P1 w s₁.heap (Hd.K w.params)) 165 (bV (dO (bV bR 8)) 2) (bdPos [0]):=cE.pos1 ⟨KX 165 (Hd.ob w.params 165) (by kernel_rfl),(show(Hd.ob w.params 165).data=cQ (Hd.fdO (Hd.ob w.params 165)) by kernel_rfl),cH KX (by kernel_rfl),(by kernel_rfl),(by kernel_rfl),(by kernel_rfl),(by kernel_rfl),(by kernel_rfl),(by decide+kernel)⟩ (λx=>by kernel_rfl)
 have fn172:cE (P1 w s₁.heap (Hd.K w.params)) 172 (bV (dO (bV bR 8)) 3) (bdPos [0,37]):=cE.pos2 ⟨KX 172 (Hd.ob w.params 172) (by kernel_rfl),(show(Hd.ob w.params 172).data=cQ (Hd.fdO (Hd.ob w.params 172)) by kernel_rfl),cH KX (by kernel_rfl),(by kernel_rfl),(by kernel_rfl),(by kernel_rfl),(by kernel_rfl),(by kernel_rfl),(by decide+kernel)⟩ (λx y=>by kernel_rfl)
 have fn193:cE (P1 w s₁.heap (Hd.K w.params)) 193 (bV (dO (bV bR 8)) 6) (bdPos [0,39]):=cE.pos2 ⟨KX 193 (Hd.ob w.params 193) (by kernel_rfl),(show(Hd.ob w.params 193).data=cQ (Hd.fdO (Hd.ob w.params 193)) by kernel_rfl),cH KX (by kernel_rfl),(by kernel_rfl),(by kernel_rfl),(by kernel_rfl),(by kernel_rfl),(by kernel_rfl),(by decide+kernel)⟩ (λx y=>by kernel_rfl)
 have fn200:cE (P1 w s₁.heap (Hd.K w.params)) 200 (bV (dO (bV bR 8)) 7) (bdPos [0,39]):=cE.pos2 ⟨KX 200 (Hd.ob w.params 200) (by kernel_rfl),(show(Hd.ob w.params 200).data=cQ (Hd.fdO (Hd.ob w.params 200)) by kernel_rfl),cH KX (by kernel_rfl),(by kernel_rfl),(by kernel_rfl),(by kernel_rfl),(by kernel_rfl),(by kernel_rfl),(by decide+kernel)⟩ (λx y=>by kernel_rfl)
 have fn214:cE (P1 w s₁.heap (Hd.K w.params)) 214 (bV bR 10) (bdPos [44]):=cE.pos1 ⟨KX 214 (Hd.ob w.params 214) (by kernel_rfl),(show(Hd.ob w.params 214).data=cQ (Hd.fdO (Hd.ob w.params 214)) by kernel_rfl),cH KX (by kernel_rfl),(by kernel_rfl),(by kernel_rfl),(by kernel_rfl),(by kernel_rfl),(by kernel_rfl),(by decide+kernel)⟩ (λx=>by kernel_rfl)
 have fn221:cE (P1 w s₁.heap (Hd.K w.params)) 221 (bV bR 11) (bdPos [45,48]):=cE.pos2 ⟨KX 221 (Hd.ob w.params 221) (by kernel_rfl),(show(Hd.ob w.params 221).data=cQ (Hd.fdO (Hd.ob w.params 221)) by kernel_rfl),cH KX (by kernel_rfl),(by kernel_rfl),(by kernel_rfl),(by kernel_rfl),(by kernel_rfl),(by kernel_rfl),(by decide+kernel)⟩ (λx y=>by kernel_rfl)
 have fn226:cE (P1 w s₁.heap (Hd.K w.params)) 226 (bV bR 12) (bdPos [51]):=cE.pos1 ⟨KX 226 (Hd.ob w.params 226) (by kernel_rfl),(show(Hd.ob w.params 226).data=cQ (Hd.fdO (Hd.ob w.params 226)) by kernel_rfl),cH KX (by kernel_rfl),(by kernel_rfl),(by kernel_rfl),(by kernel_rfl),(by kernel_rfl),(by kernel_rfl),(by decide+kernel)⟩ (λx=>by kernel_rfl)
 have fn231:cE (P1 w s₁.heap (Hd.K w.params)) 231 (bV bR 13) (bdPos [62,63,64]):=cE.pos3 ⟨KX 231 (Hd.ob w.params 231) (by kernel_rfl),(show(Hd.ob w.params 231).data=cQ (Hd.fdO (Hd.ob w.params 231)) by kernel_rfl),cH KX (by kernel_rfl),(by kernel_rfl),(by kernel_rfl),(by kernel_rfl),(by kernel_rfl),(by kernel_rfl),(by decide+kernel)⟩ (λx y z=>by kernel_rfl)
 have fn236:cE (P1 w s₁.heap (Hd.K w.params)) 236 (bV bR 14) (bdPos [67]):=cE.pos1 ⟨KX 236 (Hd.ob w.params 236) (by kernel_rfl),(show(Hd.ob w.params 236).data=cQ (Hd.fdO (Hd.ob w.params 236)) by kernel_rfl),cH KX (by kernel_rfl),(by kernel_rfl),(by kernel_rfl),(by kernel_rfl),(by kernel_rfl),(by kernel_rfl),(by decide+kernel)⟩ (λx=>by kernel_rfl)
 have fn243:cE (P1 w s₁.heap (Hd.K w.params)) 243 (bV bR 15) (bdPos [67]):=cE.pos1 ⟨KX 243 (Hd.ob w.params 243) (by kernel_rfl),(show(Hd.ob w.params 243).data=cQ (Hd.fdO (Hd.ob w.params 243)) by kernel_rfl),cH KX (by kernel_rfl),(by kernel_rfl),(by kernel_rfl),(by kernel_rfl),(by kernel_rfl),(by kernel_rfl),(by decide+kernel)⟩ (λx=>by kernel_rfl)
 have fn248:cE (P1 w s₁.heap (Hd.K w.params)) 248 (bV bR 16) (bdPos [86]):=cE.pos1 ⟨KX 248 (Hd.ob w.params 248) (by kernel_rfl),(show(Hd.ob w.params 248).data=cQ (Hd.fdO (Hd.ob w.params 248)) by kernel_rfl),cH KX (by kernel_rfl),(by kernel_rfl),(by kernel_rfl),(by kernel_rfl),(by kernel_rfl),(by kernel_rfl),(by decide+kernel)⟩ (λx=>by kernel_rfl)
 have F:jn w s₁.heap (Hd.K w.params) mg mb:={
  tp:=tp
  hz:=hzK
  hset:=vz
  at__NodeInfo_node:={toClsP:=⟨(by kernel_rfl),(by kernel_rfl),(by kernel_rfl),(by kernel_rfl)⟩,p:=⟨41,λ_=>by kernel_rfl,(by kernel_rfl),(by kernel_rfl),(by kernel_rfl)⟩,lt:=by decide}
  at__NodeInfo_npredecessors:={toClsP:=⟨(by kernel_rfl),(by kernel_rfl),(by kernel_rfl),(by kernel_rfl)⟩,p:=⟨42,λ_=>by kernel_rfl,(by kernel_rfl),(by kernel_rfl),(by kernel_rfl)⟩,lt:=by decide}
  at__NodeInfo_successors:={toClsP:=⟨(by kernel_rfl),(by kernel_rfl),(by kernel_rfl),(by kernel_rfl)⟩,p:=⟨43,λ_=>by kernel_rfl,(by kernel_rfl),(by kernel_rfl),(by kernel_rfl)⟩,lt:=by decide}
  fn_NodeInfo_init:=fn36
  at_TS__node2info:={toClsP:=⟨(by kernel_rfl),(by kernel_rfl),(by kernel_rfl),(by kernel_rfl)⟩,free:=(by kernel_rfl),hd:=(by kernel_rfl)}
  mk__NodeInfo:=⟨(by kernel_rfl),(by kernel_rfl),(by kernel_rfl)⟩
  kp__NodeInfo:=(by kernel_rfl)
  g__NodeInfo:=oL KX T.g (by kernel_rfl)
  fn_TS__get_nodeinfo:=fn80
  at_TS__ready_nodes:={toClsP:=⟨(by kernel_rfl),(by kernel_rfl),(by kernel_rfl),(by kernel_rfl)⟩,free:=(by kernel_rfl),hd:=(by kernel_rfl)}
  mt_TS__get_nodeinfo:={toClsP:=⟨(by kernel_rfl),(by kernel_rfl),(by kernel_rfl),(by kernel_rfl)⟩,fn:=(by kernel_rfl),ty:=(by kernel_rfl)}
  kp_TS__get_nodeinfo:=(by kernel_rfl)
  b_len:=(T.builtins _ (by decide+kernel)).trans (by kernel_rfl)
  n_len:=fF KX T.g (by kernel_rfl)
  fn_TS_add:=fn87
  at_TS__npassedout:={toClsP:=⟨(by kernel_rfl),(by kernel_rfl),(by kernel_rfl),(by kernel_rfl)⟩,free:=(by kernel_rfl),hd:=(by kernel_rfl)}
  at_TS__nfinished:={toClsP:=⟨(by kernel_rfl),(by kernel_rfl),(by kernel_rfl),(by kernel_rfl)⟩,free:=(by kernel_rfl),hd:=(by kernel_rfl)}
  fn_TS_init:=fn73
  b_set:=(T.builtins _ (by decide+kernel)).trans (by kernel_rfl)
  n_set:=fF KX T.g (by kernel_rfl)
  b_iter:=(T.builtins _ (by decide+kernel)).trans (by kernel_rfl)
  n_iter:=fF KX T.g (by kernel_rfl)
  mat0:=zN.built (P:=P1 w s₁.heap (Hd.K w.params)) (by rw[i3];kernel_rfl) (by rw[i3];kernel_rfl) (by rw[i3];kernel_rfl)
  b_StopIteration:=(T.builtins _ (by decide+kernel)).trans (by kernel_rfl)
  n_StopIteration:=fF KX T.g (by kernel_rfl)
  fn_TS__find_cycle:=fn127
  mt_TS__find_cycle:={toClsP:=⟨(by kernel_rfl),(by kernel_rfl),(by kernel_rfl),(by kernel_rfl)⟩,fn:=(by kernel_rfl),ty:=(by kernel_rfl)}
  kp_TS__find_cycle:=(by kernel_rfl)
  own_CE:=ownCE
  g_CycleError:=oL KX T.g (by kernel_rfl)
  fn_TS_prepare:=fn92
  b_tuple:=(T.builtins _ (by decide+kernel)).trans (by kernel_rfl)
  n_tuple:=fF KX T.g (by kernel_rfl)
  g__NODE_OUT:=x5 KX T.g (by kernel_rfl)
  fn_TS_get_ready:=fn99
  b_bool:=(T.builtins _ (by decide+kernel)).trans (by kernel_rfl)
  n_bool:=fF KX T.g (by kernel_rfl)
  fn_TS_is_active:=fn106
  g__NODE_DONE:=x5 KX T.g (by kernel_rfl)
  fn_TS_done:=fn120
  at_Whitespace_raw:={toClsP:=⟨(by kernel_rfl),(by kernel_rfl),(by kernel_rfl),(by kernel_rfl)⟩,free:=(by kernel_rfl),hd:=(by kernel_rfl)}
  ca_Whitespace_S:=x0 (by kernel_rfl)
  rd_Whitespace:=(by kernel_rfl)
  g_Whitespace:=oL KX T.g (by kernel_rfl)
  ca_Whitespace_T:=x0 (by kernel_rfl)
  at_Whitespace_n:={toClsP:=⟨(by kernel_rfl),(by kernel_rfl),(by kernel_rfl),(by kernel_rfl)⟩,free:=(by kernel_rfl),hd:=(by kernel_rfl)}
  at_Whitespace_nt:={toClsP:=⟨(by kernel_rfl),(by kernel_rfl),(by kernel_rfl),(by kernel_rfl)⟩,free:=(by kernel_rfl),hd:=(by kernel_rfl)}
  at_Whitespace_norm:={toClsP:=⟨(by kernel_rfl),(by kernel_rfl),(by kernel_rfl),(by kernel_rfl)⟩,free:=(by kernel_rfl),hd:=(by kernel_rfl)}
  at_Whitespace_is_simple:={toClsP:=⟨(by kernel_rfl),(by kernel_rfl),(by kernel_rfl),(by kernel_rfl)⟩,free:=(by kernel_rfl),hd:=(by kernel_rfl)}
  fn_Whitespace_init:=fn158
  b_max:=(T.builtins _ (by decide+kernel)).trans (by kernel_rfl)
  n_max:=fF KX T.g (by kernel_rfl)
  fn_Whitespace_longest_run_of_spaces:=fn165
  b_range:=(T.builtins _ (by decide+kernel)).trans (by kernel_rfl)
  n_range:=fF KX T.g (by kernel_rfl)
  fn_Whitespace_indent_level:=fn172
  mt_Whitespace_longest_run_of_spaces:={toClsP:=⟨(by kernel_rfl),(by kernel_rfl),(by kernel_rfl),(by kernel_rfl)⟩,fn:=(by kernel_rfl),ty:=(by kernel_rfl)}
  kp_Whitespace_longest_run_of_spaces:=(by kernel_rfl)
  mt_Whitespace_indent_level:={toClsP:=⟨(by kernel_rfl),(by kernel_rfl),(by kernel_rfl),(by kernel_rfl)⟩,fn:=(by kernel_rfl),ty:=(by kernel_rfl)}
  kp_Whitespace_indent_level:=(by kernel_rfl)
  fn_Whitespace_less:=fn193
  fn_Whitespace_not_less_witness:=fn200
  fn_law_text:=fn214
  fn_law_column:=fn221
  b_sorted:=(T.builtins _ (by decide+kernel)).trans (by kernel_rfl)
  n_sorted:=fF KX T.g (by kernel_rfl)
  b_zip:=(T.builtins _ (by decide+kernel)).trans (by kernel_rfl)
  n_zip:=fF KX T.g (by kernel_rfl)
  fn_law_blocks:=fn226
  fn_law_witness:=fn231
  b_list:=(T.builtins _ (by decide+kernel)).trans (by kernel_rfl)
  n_list:=fF KX T.g (by kernel_rfl)
  fn_law_ring:=fn236
  mk_TS:=⟨(by kernel_rfl),(by kernel_rfl),(by kernel_rfl)⟩
  kp_TS:=(by kernel_rfl)
  g_TS:=oL KX T.g (by kernel_rfl)
  mt_TS_add:={toClsP:=⟨(by kernel_rfl),(by kernel_rfl),(by kernel_rfl),(by kernel_rfl)⟩,fn:=(by kernel_rfl),ty:=(by kernel_rfl)}
  sg_TS_add:=(by kernel_rfl)
  tk_TS_add:=(by kernel_rfl)
  ci_TS:=(by kernel_rfl)
  fi_TS_add:=(by kernel_rfl)
  mt_TS_prepare:={toClsP:=⟨(by kernel_rfl),(by kernel_rfl),(by kernel_rfl),(by kernel_rfl)⟩,fn:=(by kernel_rfl),ty:=(by kernel_rfl)}
  kp_TS_prepare:=(by kernel_rfl)
  mat1:=zN.own (P:=P1 w s₁.heap (Hd.K w.params)) ownCE (by decide+kernel)
  mt_TS_is_active:={toClsP:=⟨(by kernel_rfl),(by kernel_rfl),(by kernel_rfl),(by kernel_rfl)⟩,fn:=(by kernel_rfl),ty:=(by kernel_rfl)}
  kp_TS_is_active:=(by kernel_rfl)
  mt_TS_get_ready:={toClsP:=⟨(by kernel_rfl),(by kernel_rfl),(by kernel_rfl),(by kernel_rfl)⟩,fn:=(by kernel_rfl),ty:=(by kernel_rfl)}
  kp_TS_get_ready:=(by kernel_rfl)
  mt_TS_done:={toClsP:=⟨(by kernel_rfl),(by kernel_rfl),(by kernel_rfl),(by kernel_rfl)⟩,fn:=(by kernel_rfl),ty:=(by kernel_rfl)}
  sg_TS_done:=(by kernel_rfl)
  tk_TS_done:=(by kernel_rfl)
  fi_TS_done:=(by kernel_rfl)
  fn_law_stage:=fn243
  b_sum:=(T.builtins _ (by decide+kernel)).trans (by kernel_rfl)
  n_sum:=fF KX T.g (by kernel_rfl)
  kp_law_text:=(by kernel_rfl)
  g__law_text:=oL KX T.g (by kernel_rfl)
  mk_Whitespace:=⟨(by kernel_rfl),(by kernel_rfl),(by kernel_rfl)⟩
  kp_Whitespace:=(by kernel_rfl)
  kp_law_column:=(by kernel_rfl)
  g__law_column:=oL KX T.g (by kernel_rfl)
  mt_Whitespace_less:={toClsP:=⟨(by kernel_rfl),(by kernel_rfl),(by kernel_rfl),(by kernel_rfl)⟩,fn:=(by kernel_rfl),ty:=(by kernel_rfl)}
  kp_Whitespace_less:=(by kernel_rfl)
  mt_Whitespace_not_less_witness:={toClsP:=⟨(by kernel_rfl),(by kernel_rfl),(by kernel_rfl),(by kernel_rfl)⟩,fn:=(by kernel_rfl),ty:=(by kernel_rfl)}
  kp_Whitespace_not_less_witness:=(by kernel_rfl)
  kp_law_witness:=(by kernel_rfl)
  g__law_witness:=oL KX T.g (by kernel_rfl)
  kp_law_blocks:=(by kernel_rfl)
  g__law_blocks:=oL KX T.g (by kernel_rfl)
  kp_law_stage:=(by kernel_rfl)
  g__law_stage:=oL KX T.g (by kernel_rfl)
  kp_law_ring:=(by kernel_rfl)
  g__law_ring:=oL KX T.g (by kernel_rfl)
  fn_law:=fn248}
 obtain⟨vs,hpl,hia⟩:=rV L
 exact E8 (DK F) (by decide) rfl hg hpl hia (Cn ns hlen') (λ_=>rfl) (by first|kernel_rfl|wrow_post)
